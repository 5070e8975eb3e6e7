/-
  sort.Sort over nodeIDs: the three methods, and what the row holds behind the call.
-/
import Derived.Test.YbulkzhyShelf
import Derived.Test.YbulkzhyPlain
import Derived.Shelf.GgSortMore.Iface
import Derived.Sort.OwnSortedInts
import Derived.Deep.QuietTactic
import Derived.BigQuiet
import Derived.RegionTactic
import Derived.WalkKit
import Derived.WalkSpells
import Derived.WalkLawsBesides
namespace Go.Proofs.Ybulkzhy
open Go.Shelf Go.RowKit Go.Lib
open Go.Sort (ltInt swo_ltInt Holds grow putRow)

set_option linter.unusedVariables false

theorem len_reached (p : Option Addr) (n c : Nat) : Reaches Yba.prog 54 (.slice p n c) "Len" 71 := ⟨fun _ => by kernel_rfl, enters_of Yba.func71 (by kernel_rfl) rfl⟩
theorem less_reached (p : Option Addr) (n c : Nat) : Reaches Yba.prog 54 (.slice p n c) "Less" 72 := ⟨fun _ => by kernel_rfl, enters_of Yba.func72 (by kernel_rfl) rfl⟩
theorem swap_reached (p : Option Addr) (n c : Nat) : Reaches Yba.prog 54 (.slice p n c) "Swap" 73 := ⟨fun _ => by kernel_rfl, enters_of Yba.func73 (by kernel_rfl) rfl⟩

theorem ids_Len (p : Option Addr) (n c : Nat) (W : World) : LenM Yba.prog 71 (.slice p n c) n W := by
  unfold LenM
  go_enter Yba.func71, Yba.ntmps71
  go_wp2
  go_ret
  exact ⟨rfl, 0, rfl⟩

set_option maxHeartbeats 2000000 in
theorem ids_Less (blk off c size : Nat) (W : World) (G : Nat → Int) (hc : ∀ t, t < size → W.cell? ⟨blk, off + t, none⟩ = some (.int .i64 (G t))) (i j : Nat) (hi : i < size) (hj : j < size) (_hsz : size < 4611686018427387904) :
    Calls Yba.prog 72 #[.slice (some ⟨blk, off, none⟩) size c, .int .i64 i, .int .i64 j] W fun e w' => e = .returned (.bool (decide (G i < G j))) ∧ ∃ q, w' = W.drewN q := by
  have ci := hc i hi
  have cj := hc j hj
  go_enter Yba.func72, Yba.ntmps72
  go_wp2
  go_quiet (fail)
  go_wp2
  go_ret
  exact ⟨rfl, nq, rfl⟩

set_option maxHeartbeats 2000000 in
theorem ids_Swap (blk off c size : Nat) (W : World) (x y : Int) (i j : Nat) (hi : i < size) (hj : j < size) (_hsz : size < 4611686018427387904)
    (ci : W.cell? ⟨blk, off + i, none⟩ = some (.int .i64 x)) (cj : W.cell? ⟨blk, off + j, none⟩ = some (.int .i64 y)) (fi : W.frozen? ⟨blk, off + i, none⟩ = false) (fj : W.frozen? ⟨blk, off + j, none⟩ = false) :
    Calls Yba.prog 73 #[.slice (some ⟨blk, off, none⟩) size c, .int .i64 i, .int .i64 j] W fun e w' => e = .returned (.tuple #[]) ∧ ∃ q, w' = ((W.setCell ⟨blk, off + i, none⟩ (.int .i64 y)).setCell ⟨blk, off + j, none⟩ (.int .i64 x)).drewN q := by
  obtain ⟨v', hy'⟩ := cell?_setCell_some (w := W) (p := ⟨blk, off + i, none⟩) (x := .int .i64 y) (q := ⟨blk, off + j, none⟩) cj
  go_enter Yba.func73, Yba.ntmps73
  go_wp2
  go_region
  all_goals (try go_wp2)
  all_goals go_end0
  all_goals exact ⟨rfl, 1, rfl⟩

theorem ids_LessM (blk off c : Nat) (d : Array Int) (w : World) (hH : Holds (Value.int .i64) w blk off d) (hblk : blk < w.heap.size) (hsz : d.size < 4611686018427387904) :
    LessM Yba.prog 72 (.slice (some ⟨blk, off, none⟩) d.size c) (Value.int .i64) ltInt blk off d.size w := fun m os dk hs i j hi hj =>
  ids_Less blk off c d.size _ (fun t => dk[t]!) (fun t ht => ((holds_sortWorld (Value.int .i64) w blk off m d dk os hblk hH hs) t (by omega)).1) i j hi hj hsz
theorem ids_SwapM (blk off c size : Nat) (hsz : size < 4611686018427387904) : SwapM Yba.prog 73 (.slice (some ⟨blk, off, none⟩) size c) (Value.int .i64) blk off size := fun W dk hH hs i j hi hj =>
  ids_Swap blk off c size W dk[i]! dk[j]! i j hi hj hsz (hH i (by omega)).1 (hH j (by omega)).1 (hH i (by omega)).2 (hH j (by omega)).2

theorem pair_short : ∀ ss : List Int, ¬ 2 ≤ ss.length → ss.Pairwise (· ≤ ·)
  | [], _ => by simp
  | [x], _ => by simp
  | x :: y :: l, h => absurd (by simp) h

/-- sort.Sort(nodeIDs(ids)) at a row of the call's own: the row holds a sorted permutation of what it held. -/
theorem sort_ids (base g n cap : Nat) (ss : List Int) (w : World) (hn : ss.length = n) (hsz : n ≤ 65536) (hown : w.ownsRow base 25 1 (.slice (some ⟨g, 0, none⟩) n cap) n (ss.map (Value.int .i64))) :
    Calls Yba.prog 15 #[.iface 54 (.slice (some ⟨g, 0, none⟩) n cap)] w fun e w' => e = .returned (.tuple #[]) ∧ ∃ ts : List Int, ts.length = n ∧ ts.Perm ss ∧ ts.Pairwise (· ≤ ·) ∧
      w'.ownsRow base 25 1 (.slice (some ⟨g, 0, none⟩) n cap) n (ts.map (Value.int .i64)) ∧ w.grownBy w' (some g) := by
  subst hn
  obtain ⟨hl, hr⟩ := hown
  rcases hr with ⟨h0, _⟩ | ⟨g', cap', cur, hv, hbase, hb, hnc, hcm, hcs, htake⟩
  · cases h0
  cases hv
  have hg : g < w.heap.size := (Array.getElem?_eq_some_iff.1 hb).1
  by_cases h2 : 2 ≤ ss.length
  · have hH : Holds (Value.int .i64) w g 0 ss.toArray := holds_of_blockI hb (by rw [← htake, Nat.mul_one])
    have hS := Any.sort_Sort_sorted Yba.sl11 54 (.slice (some ⟨g, 0, none⟩) ss.toArray.size cap) 71 72 73 (len_reached _ _ _) (less_reached _ _ _) (swap_reached _ _ _) (Value.int .i64) ltInt swo_ltInt
      g 0 ss.toArray (by simpa using h2) (by simp; omega) w (ids_Len _ _ _ _) (ids_LessM g 0 cap ss.toArray w hH hg (by simp; omega)) (ids_SwapM g 0 cap ss.toArray.size (by simp; omega)) hH hg
    change Calls Yba.prog 15 _ _ _ at hS
    rw [List.size_toArray] at hS
    refine hS.mono fun e w' ⟨he, d', n, os, hP, hSo, hw⟩ => ⟨he, d'.toList, ?_⟩
    obtain ⟨p1, p2, p3⟩ := Plain.sorted_list (d := ss.toArray) (d' := d') (by rw [List.size_toArray]; exact hP) (by rw [List.size_toArray]; exact hSo)
    have hl' : d'.toList.length = ss.length := by simpa using p1
    refine ⟨hl', p2, p3, ?_, ?_⟩
    · rw [hw]
      have := ownsRow_sortedI (w := w) (base := base) (g := g) (cap := cap) (n := n) (e := 25) (os := os) (cur := cur) (ss := ss) (ts := d'.toList) hl' hbase hb hnc hcm hcs
      rw [Array.toArray_toList] at this
      exact this
    · rw [hw]; exact grownBy_sortedI d'
  · have hT := Any.sort_Sort_tiny Yba.sl11 54 (.slice (some ⟨g, 0, none⟩) ss.length cap) 71 (len_reached _ _ _) ss.length (by omega) w (ids_Len _ _ _ _)
    change Calls Yba.prog 15 _ _ _ at hT
    have hpw : ss.Pairwise (· ≤ ·) := pair_short ss h2
    refine hT.mono fun e w' ⟨he, q, hw⟩ => ⟨he, ss, rfl, List.Perm.refl _, hpw, ?_, ?_⟩
    · rw [hw]; exact ⟨hl, .inr ⟨g, cap, cur, rfl, hbase, hb, hnc, hcm, hcs, htake⟩⟩
    · rw [hw]; exact ⟨rfl, rfl, rfl, Nat.le_refl _, fun _ _ _ => rfl⟩
end Go.Proofs.Ybulkzhy

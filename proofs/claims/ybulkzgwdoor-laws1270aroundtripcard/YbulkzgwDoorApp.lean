/-
  appendAddrs: what it appends, and that the slice that was handed in keeps its elements.
-/
import Derived.Test.YbulkzgwDoorAddr
import Derived.Deep.DeepAppendRoom
import Derived.ArgAppend
namespace Go.Proofs.YbulkzgwDoor
open Go.RowKit
set_option linter.unusedVariables false

theorem Ybad.info32 : (Ybad.prog.info? 32).map (fun i => (i.zero, i.size, i.bytes)) = some (some (.agg #[.int .u64 0, .int .u64 0, .pointer none]), 3, 24) := by kernel_rfl

/-- One address's three cells. -/
def addrCells (z : Option Addr) (x : Int) : List Value := [.int .u64 0, .int .u64 (281470681743360 + x), .pointer z]
/-- The cells of a row of addresses. -/
def flatA (z : Option Addr) (xs : List Int) : List Value := xs.flatMap (addrCells z)

theorem flatA_length (z : Option Addr) (xs : List Int) : (flatA z xs).length = xs.length * 3 := by
  induction xs with
  | nil => rfl
  | cons x xs ih => simp [flatA, addrCells] at ih ⊢; omega
theorem flatA_append (z : Option Addr) (xs ys : List Int) : flatA z (xs ++ ys) = flatA z xs ++ flatA z ys := by simp [flatA]
theorem flatA_one (z : Option Addr) (x : Int) : flatA z [x] = addrCells z x := by simp [flatA]
theorem flatA_get (z : Option Addr) : ∀ (xs : List Int) (i j : Nat), i < xs.length → j < 3 → (flatA z xs)[i * 3 + j]? = (addrCells z (xs.getD i 0))[j]?
  | x :: xs, 0, j, _, hj => by
    simp only [Nat.zero_mul, Nat.zero_add]
    show (addrCells z x ++ flatA z xs)[j]? = _
    rw [List.getElem?_append_left (by simp [addrCells]; omega)]; rfl
  | x :: xs, i + 1, j, hi, hj => by
    show (addrCells z x ++ flatA z xs)[(i + 1) * 3 + j]? = _
    rw [List.getElem?_append_right (by simp [addrCells]; omega)]
    have e : (i + 1) * 3 + j - (addrCells z x).length = i * 3 + j := by simp [addrCells]; omega
    rw [e, flatA_get z xs i j (by simpa using hi) hj]
    simp
theorem flatA_oneCell (z : Option Addr) (x : Int) : ∀ u ∈ addrCells z x, u.oneCell' = true := by
  intro u hu
  simp [addrCells] at hu
  rcases hu with rfl | rfl | rfl <;> rfl

theorem take_snoc {ys : List Int} {k : Nat} (h : k < ys.length) : ys.take (k + 1) = ys.take k ++ [ys.getD k 0] := by
  rw [List.take_succ_eq_append_getElem h]; simp [h]

/-- The relation of appendAddrs's loop. -/
structure AppAt (w wr : World) (base db ib g n k c : Nat) (z : Option Addr) (xs ys : List Int) : Prop where
  own : wr.ownsRow base 32 3 (.slice (some ⟨g, 0, none⟩) (n + k) c) (n + k) (flatA z (xs ++ ys.take k))
  below : Below base w wr
  old : ∀ j u, (flatA z xs)[j]? = some u → wr.cell? ⟨db, j, none⟩ = some u
  ids : wr.heap[ib]? = w.heap[ib]?
  gi : g ≠ ib

theorem own_lt {w : World} {base g n c : Nat} {xs : List Value} (h : w.ownsRow base 32 3 (.slice (some ⟨g, 0, none⟩) n c) n xs) : base ≤ g ∧ g < w.heap.size := h.lt g rfl
theorem own_cells {w : World} {base g n c : Nat} {xs : List Value} (h : w.ownsRow base 32 3 (.slice (some ⟨g, 0, none⟩) n c) n xs) : ∀ j u, xs[j]? = some u → w.cell? ⟨g, j, none⟩ = some u := fun j u hu => by
  have := h.cells (g := g) rfl j u hu
  simpa [Addr.add_lit] using this

theorem app_spare {w wr w1 w2 : World} {base db ib g n k c : Nat} {z : Option Addr} {xs ys : List Int} (h : AppAt w wr base db ib g n k c z xs ys) (hk : k < ys.length) (hdb : db < w.heap.size) (hib : ib < w.heap.size) (hbase : base ≤ w.heap.size)
    (hb : Below wr.heap.size wr w1) (hn : xs.length = n)
    (hown : w2.ownsRow base 32 3 (.slice (some ⟨g, 0, none⟩) (n + k + 1) c) (n + k + 1) (flatA z (xs ++ ys.take k) ++ addrCells z (ys.getD k 0))) (hg : w1.grownBy w2 (some g)) :
    AppAt w w2 base db ib g n (k + 1) c z xs ys := by
  have hgb := own_lt h.own
  have hsz := hb.size
  have hwr := h.below.size
  have e : flatA z (xs ++ ys.take k) ++ addrCells z (ys.getD k 0) = flatA z (xs ++ ys.take (k + 1)) := by
    rw [take_snoc hk, ← flatA_one, ← flatA_append, List.append_assoc]
  rw [e] at hown
  refine ⟨hown, ?_, fun j u hu => ?_, ?_, h.gi⟩
  · refine (h.below.trans (hb.mono (by omega))).trans ⟨hg.os, hg.tape, hg.output, hg.size, fun b hb' => hg.block b (by omega) (by simp; omega)⟩
  · by_cases hd : db = g
    · subst hd
      refine own_cells hown j u ?_
      rw [flatA_append, List.getElem?_append_left]
      · exact hu
      · exact (List.getElem?_eq_some_iff.1 hu).1
    · exact hg.cell (a := ⟨db, j, none⟩) ((hb.cell (p := ⟨db, j, none⟩) (by show db < _; omega)).trans (h.old j u hu)) (by simp; exact hd)
  · rw [hg.block ib (by omega) (by simp; exact fun e => h.gi e.symm), hb.block ib (by omega)]; exact h.ids

theorem app_full {w wr w1 w2 : World} {base db ib g n k c : Nat} {z : Option Addr} {xs ys : List Int} (h : AppAt w wr base db ib g n k c z xs ys) (hk : k < ys.length) (hdb : db < w.heap.size) (hib : ib < w.heap.size) (hbase : base ≤ w.heap.size)
    (hb : Below wr.heap.size wr w1) (hn : xs.length = n) {v : Value}
    (hown : w2.ownsRow w1.heap.size 32 3 v (n + k + 1) (flatA z (xs ++ ys.take k) ++ addrCells z (ys.getD k 0))) (hg : w1.grownBy w2 none) :
    ∃ g' c', v = .slice (some ⟨g', 0, none⟩) (n + k + 1) c' ∧ AppAt w w2 base db ib g' n (k + 1) c' z xs ys := by
  have hgb := own_lt h.own
  have hsz := hb.size
  have hwr := h.below.size
  have e : flatA z (xs ++ ys.take k) ++ addrCells z (ys.getD k 0) = flatA z (xs ++ ys.take (k + 1)) := by
    rw [take_snoc hk, ← flatA_one, ← flatA_append, List.append_assoc]
  rw [e] at hown
  rcases hown.2 with ⟨_, h0⟩ | ⟨g', c', cur, hv, hbg, hh, r⟩
  · omega
  · refine ⟨g', c', hv, ⟨⟨hown.1, .inr ⟨g', c', cur, rfl, by omega, hh, r⟩⟩, ?_, fun j u hu => ?_, ?_, by omega⟩⟩
    · exact (h.below.trans (hb.mono (by omega))).trans ⟨hg.os, hg.tape, hg.output, hg.size, fun b hb' => hg.block b (by omega) (by simp)⟩
    · exact hg.cell (a := ⟨db, j, none⟩) ((hb.cell (p := ⟨db, j, none⟩) (by show db < _; omega)).trans (h.old j u hu)) (by simp)
    · rw [hg.block ib (by omega) (by simp), hb.block ib (by omega)]; exact h.ids

set_option maxHeartbeats 1000000 in
theorem app_any (base db ib n m cap : Nat) (z : Option Addr) (xs ys : List Int) (w : World) (hn : xs.length = n) (hm : ys.length = m) (hn' : n ≤ 1024) (hm' : m ≤ 1024) (hy : ∀ y ∈ ys, 0 ≤ y ∧ y ≤ 4294967295)
    (hg1 : 1 < base) (hbase : base ≤ w.heap.size) (hz : w.cell? ⟨1, 0, none⟩ = some (.pointer z)) (hib : ib < w.heap.size) (hne : db ≠ ib)
    (hids : w.rowIs ib 33 m (fun k => .int .u32 (ys.getD k 0)))
    (hown : w.ownsRow base 32 3 (.slice (some ⟨db, 0, none⟩) n cap) n (flatA z xs)) :
    Calls Ybad.prog 6 #[.slice (some ⟨db, 0, none⟩) n cap, .slice (some ⟨ib, 0, none⟩) m m] w fun e w' =>
      ∃ g c, e = .returned (.slice (some ⟨g, 0, none⟩) (n + m) c) ∧ AppAt w w' base db ib g n m c z xs ys := by
  obtain ⟨i0, hi, hz0, hz1, hz2⟩ := info_parts Ybad.info32
  have hdb := (own_lt hown).2
  go_enter Ybad.func6, Ybad.ntmps6
  go_wp2
  go_loopw [0, 9] (fun v i wr => ∃ k g c : Nat, k ≤ m ∧ i = .int .i64 k ∧ v = .slice (some ⟨g, 0, none⟩) (n + k) c ∧ AppAt w wr base db ib g n k c z xs ys) (fun _ i _ => m - (intOf i).toNat)
  case atStart => exact ⟨0, db, cap, Nat.zero_le _, rfl, rfl, ⟨by simpa using hown, Below.refl _ _, own_cells hown, rfl, hne⟩⟩
  case round =>
    obtain ⟨k, g, c, hk, rfl, rfl, hA⟩ := hrel
    by_cases hlt : k < m
    · have hy1 : 0 ≤ ys.getD k 0 ∧ ys.getD k 0 ≤ 4294967295 := hy _ (by rw [List.getD_eq_getElem?_getD, List.getElem?_eq_getElem (by omega)]; simp)
      have hc : wr.cell? ⟨ib, k, none⟩ = some (.int .u32 (ys.getD k 0)) := (World.cell?_of_block (a := ⟨ib, k, none⟩) hA.ids).trans (hids.cell hlt)
      have hzr : wr.cell? ⟨1, 0, none⟩ = some (.pointer z) := (hA.below.cell (p := ⟨1, 0, none⟩) hg1).trans hz
      have hsz := hA.below.size
      have K : Hid (k < ys.length) := by rw [hm]; exact hlt
      generalize hyk : ys.getD k 0 = y at hy1 hc
      have HY : Hid (ys.getD k 0 = y) := hyk
      have HA : Hid (AppAt w wr base db ib g n k c z xs ys) := hA
      have hown1 := hA.own
      clear hy hids hown hyk hA
      go_wp2_with fail
      refine (addr_any y z wr hy1.1 hy1.2 hzr (by omega)).mono ?_
      rintro e w1 ⟨rfl, hb⟩
      have hsz1 := hb.size
      have hb1 : Below wr.heap.size wr (w1.alloc (.cells #[.int .u64 0, .int .u64 (281470681743360 + y), .pointer z] 32)) := hb.alloc hb.size _
      have hown2 : (w1.alloc (.cells #[.int .u64 0, .int .u64 (281470681743360 + y), .pointer z] 32)).ownsRow base 32 3 (.slice (some ⟨g, 0, none⟩) (n + k) c) (n + k) (flatA z (xs ++ ys.take k)) :=
        hown1.kept (row := none) ⟨hb1.os, hb1.tape, hb1.output, hb1.size, fun b hb' _ => hb1.block b hb'⟩ (.inr (by simp [Value.ownBlock]))
      have hnews : ∀ j u, (addrCells z y)[j]? = some u → (w1.alloc (.cells #[.int .u64 0, .int .u64 (281470681743360 + y), .pointer z] 32)).cell? ((⟨w1.heap.size, 0, none⟩ : Addr).add j) = some u := fun j u hu => by
        rw [Addr.add_lit, Nat.zero_add, World.cell?_alloc_at _ _ _ _ rfl]
        simpa [addrCells] using hu
      unfold addrV
      by_cases hroom : n + k + 1 ≤ c
      · go_wp2_with (at_builtin; refine wpList_append_own_spare _ rfl _ _ _ rfl base 32 i0 3 Ybad.underlying23 hi hz1 g (n + k) c _ rfl hown2 ⟨w1.heap.size, 0, none⟩ 1 1 (addrCells z y) rfl rfl hnews (flatA_oneCell z y) hroom ?_)
        intro w2 hown3 hg3
        have hA' : AppAt w w2 base db ib g n (k + 1) c z xs ys := app_spare HA.out K.out hdb hib hbase hb1 hn (by rw [HY.out]; exact hown3) hg3
        clear hown3 hg3 hown2 hnews hown1 hb hb1 hi hz0 hz1 hz2 hzr hc hz
        go_wp2
        go_roundw
        case rel => exact ⟨k + 1, g, c, by omega, by go_num, rfl, hA'⟩
        case measure => simp [intOf]; omega
      · have hcells := own_cells hown2
        go_wp2_with (at_builtin; refine wpList_append_grows _ rfl _ _ _ rfl 32 i0 (.agg #[.int .u64 0, .int .u64 0, .pointer none]) 3 24 Ybad.underlying23 hi hz0 hz1 hz2 rfl (by decide) (some ⟨g, 0, none⟩) (n + k) c (flatA z (xs ++ ys.take k)) rfl (fun h => by cases h) hown2.1 (fun b hb' j u hu => by cases hb'; rw [Addr.add_lit, Nat.zero_add]; exact hcells j u hu) ⟨w1.heap.size, 0, none⟩ 1 1 (addrCells z y) rfl rfl hnews (flatA_oneCell z y) (by omega) (by unfold maxLen; omega) (by omega) ?_)
        intro v2 w2 hown3 hg3
        obtain ⟨g', c', hv, hA'⟩ := app_full HA.out K.out hdb hib hbase hb1 hn (v := v2) (by rw [HY.out, World.size_alloc]; exact hown3) hg3
        rw [hv]
        clear hown3 hg3 hown2 hnews hown1 hb hb1 hi hz0 hz1 hz2 hzr hc hz hv hcells
        go_wp2
        go_roundw
        case rel => exact ⟨k + 1, g', c', by omega, by go_num, rfl, hA'⟩
        case measure => simp [intOf]; omega
    · have e : k = m := by omega
      subst e
      clear hi hz0 hz1 hz2 hz hids hown hy
      go_wp2
      go_ret
      exact ⟨g, c, rfl, hA⟩

/-- What lies in the slice that appendAddrs hands back. -/
theorem AppAt.res {w wr : World} {base db ib g n m c : Nat} {z : Option Addr} {xs ys : List Int} (h : AppAt w wr base db ib g n m c z xs ys) (hn : xs.length = n) (hm : ys.length = m) (i : Nat) (hi : i < n + m) :
    wr.cell? ⟨g, i * 3, none⟩ = some (.int .u64 0) ∧ wr.cell? ⟨g, i * 3 + 1, none⟩ = some (.int .u64 (281470681743360 + (xs ++ ys).getD i 0)) ∧ wr.cell? ⟨g, i * 3 + 2, none⟩ = some (.pointer z) := by
  have ho := h.own
  rw [List.take_of_length_le (by omega)] at ho
  have hc := own_cells ho
  have hl : i < (xs ++ ys).length := by simp; omega
  refine ⟨hc (i * 3) _ ?_, hc (i * 3 + 1) _ ?_, hc (i * 3 + 2) _ ?_⟩
  · have := flatA_get z (xs ++ ys) i 0 hl (by omega); rw [Nat.add_zero] at this; rw [this]; rfl
  · rw [flatA_get z (xs ++ ys) i 1 hl (by omega)]; rfl
  · rw [flatA_get z (xs ++ ys) i 2 hl (by omega)]; rfl
theorem getD_left (xs ys : List Int) (i : Nat) (h : i < xs.length) : (xs ++ ys).getD i 0 = xs.getD i 0 := by
  simp [List.getD_eq_getElem?_getD, List.getElem?_append_left h]
theorem getD_right (xs ys : List Int) (n i : Nat) (h : xs.length = n) : (xs ++ ys).getD (n + i) 0 = ys.getD i 0 := by
  subst h; simp [List.getD_eq_getElem?_getD, List.getElem?_append_right]
theorem mem_range {xs : List Int} (hx : ∀ y ∈ xs, 0 ≤ y ∧ y ≤ 4294967295) {k : Nat} (hk : k < xs.length) : 0 ≤ xs.getD k 0 ∧ xs.getD k 0 ≤ 4294967295 :=
  hx _ (by rw [List.getD_eq_getElem?_getD, List.getElem?_eq_getElem hk]; simp)
end Go.Proofs.YbulkzgwDoor

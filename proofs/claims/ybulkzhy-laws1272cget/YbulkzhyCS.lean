/-
  slices.Clone and slices.Sort at []int32, as the table's builder meets them.
-/
import Derived.Test.YbulkzhySort32
import Derived.Test.YbulkzhyClone
import Derived.Deep.OwnRows
import Derived.Deep.DeepAppendRoom
import Derived.Lib.SliceRun
namespace Go.Proofs.Ybulkzhy
open Go.RowKit
set_option linter.unusedVariables false

/-- The sorted row. -/
def srt (l : List Int) : List Int := (Sort.sort Sort.ltInt l.toArray).toList
theorem srt_length (l : List Int) : (srt l).length = l.length := by
  have := (sort32_facts l.toArray).1
  simpa [srt] using this
theorem srt_perm (l : List Int) : (srt l).Perm l := by simpa [srt] using (sort32_facts l.toArray).2.1
theorem srt_le (l : List Int) {i j : Nat} (hij : i < j) (hj : j < l.length) : (srt l).getD i 0 ≤ (srt l).getD j 0 := by
  have h := (sort32_facts l.toArray).2.2 i j hij (by simpa using hj)
  have e : ∀ k, (srt l).getD k 0 = (Sort.sort Sort.ltInt l.toArray)[k]! := fun k => by
    unfold srt
    rw [List.getD_eq_getElem?_getD, Array.getElem?_toList, getElem!_def]
    cases (Sort.sort Sort.ltInt l.toArray)[k]? <;> rfl
  rw [e, e]; exact h

/-- v is a slice of the call's own (or nil) that holds l. -/
def RowV (base : Nat) (w : World) (v : Value) (l : List Int) : Prop :=
  (v = .slice none 0 0 ∧ l = []) ∨ ∃ g cap, v = .slice (some ⟨g, 0, none⟩) l.length cap ∧ base ≤ g ∧ g < w.heap.size ∧ Sort.Holds E32 w g 0 l.toArray

theorem RowV.keep {base : Nat} {w w' : World} {v : Value} {l : List Int} (h : RowV base w v l) (hb : Below w.heap.size w w') : RowV base w' v l := by
  rcases h with h | ⟨g, cap, h1, h2, h3, h4⟩
  · exact Or.inl h
  · refine Or.inr ⟨g, cap, h1, h2, Nat.lt_of_lt_of_le h3 hb.size, fun j hj => ?_⟩
    have := h4 j hj
    exact ⟨(hb.cell (p := ⟨g, 0 + j, none⟩) h3).trans this.1, (hb.frozen (p := ⟨g, 0 + j, none⟩) h3).trans this.2⟩
/-- The loop's reading of it. -/
theorem RowV.read {base : Nat} {w : World} {v : Value} {l : List Int} (h : RowV base w v l) : ∃ A C, v = .slice A l.length C ∧ ∀ t, t < l.length → ∃ g, A = some ⟨g, 0, none⟩ ∧ base ≤ g ∧ g < w.heap.size ∧ w.cell? ⟨g, 0 + t, none⟩ = some (.int .i32 (l.getD t 0)) := by
  rcases h with ⟨rfl, rfl⟩ | ⟨g, cap, rfl, h2, h3, h4⟩
  · exact ⟨none, 0, rfl, fun t ht => absurd ht (Nat.not_lt_zero _)⟩
  · refine ⟨_, cap, rfl, fun t ht => ⟨g, rfl, h2, h3, ?_⟩⟩
    rw [(h4 t (by simpa using ht)).1]
    simp [E32, ht]

theorem at_below {w w' : World} {blk off base : Nat} {d : Array Int} (h : Sort.At E32 w blk off d w') (hb : base ≤ blk) (hs : blk < w.heap.size) : Below base w w' := by
  obtain ⟨n, os, rfl⟩ := h
  refine ⟨rfl, rfl, rfl, by simp [Sort.grow, Sort.putRow, Sort.mapBlock], fun k hk => ?_⟩
  have h1 : k < (Sort.putRow E32 (Sort.ahead w n) blk off d).heap.size := by simp; omega
  rw [Sort.heap_grow_old _ _ h1]
  show ((Sort.ahead w n).heap.modify blk _)[k]? = _
  rw [Array.getElem?_modify, if_neg (by omega)]
  rfl

theorem Yba.sortV {base : Nat} {w : World} {v : Value} {l : List Int} (h : RowV base w v l) (hn : l.length < 4611686018427387904) :
    Calls Yba.prog 14 #[v] w fun e w' => e = .returned (.tuple #[]) ∧ RowV base w' v (srt l) ∧ Below base w w' := by
  rcases h with ⟨rfl, rfl⟩ | ⟨g, cap, rfl, h2, h3, h4⟩
  · refine (Yba.sort32nil w).mono ?_
    rintro e w' ⟨rfl, rfl⟩
    exact ⟨rfl, Or.inl ⟨rfl, List.length_eq_zero_iff.1 (by rw [srt_length]; rfl)⟩, Below.refl _ _⟩
  · refine (Yba.sort32 g 0 cap l.length l.toArray w h4 (by simp) h3 hn).mono ?_
    rintro e w' ⟨rfl, hat⟩
    have hsz := (sort32_facts l.toArray).1
    obtain ⟨q1, q2⟩ := hat.holds h4 hsz h3
    exact ⟨rfl, Or.inr ⟨g, cap, by rw [srt_length], h2, q2, by simpa [srt] using q1⟩, at_below hat h2 h3⟩

theorem Yba.info21 : (Yba.prog.info? 21).map (fun i => (i.zero, i.size, i.bytes)) = some (some (.int .i32 0), 1, 4) := by kernel_rfl

theorem owns_rowV {base : Nat} {w : World} {v : Value} {l : List Int} (h : w.ownsRow base 21 1 v l.length (l.map E32)) (hne : v ≠ .slice none 0 0) : RowV base w v l := by
  have hlt := h.lt
  rcases h.2 with ⟨h0, _⟩ | ⟨g, cap, cur, rfl, hbase, hb, hnc, hcm, hcs, htake⟩
  · exact absurd h0 hne
  refine Or.inr ⟨g, cap, rfl, hbase, (hlt g rfl).2, fun j hj => ?_⟩
  have hj' : j < l.length := by simpa using hj
  have h1 : cur[j]? = some (E32 l[j]) := by
    have : (cur.toList.take (l.length * 1))[j]? = (l.map E32)[j]? := by rw [htake]
    rw [List.getElem?_take, if_pos (by omega), Array.getElem?_toList] at this
    rw [this]; simp [hj']
  refine ⟨?_, ?_⟩
  · simp [World.cell?, hb, h1, hj']
  · simp [World.frozen?, hb]

set_option maxHeartbeats 2000000 in
set_option maxRecDepth 100000 in
theorem Yba.cloneE (ad : Addr) (C : Nat) (w : World) :
    Calls Yba.prog 13 #[.slice (some ad) 0 C] w fun e w' => ∃ v, e = .returned v ∧ RowV w.heap.size w' v [] ∧ Below w.heap.size w w' := by
  obtain ⟨i0, hi, hz0, hz1, hz2⟩ := info_parts Yba.info21
  have q22 : ∀ (w : World) (a : Option Addr) (n c n' c' : Nat), (binOp .eql 50 (.slice a n c) (.slice none n' c')).run Yba.prog w = .ok (.bool a.isNone) w := fun w a n c n' c' => Lib.run_eql_slice_nil w _ _ a n c n' c' Yba.underlying50
  go_enter Yba.func13, Yba.ntmps13
  go_wp2_with (at_builtin; refine wpList_append_own _ rfl _ _ 50 rfl w.heap.size 21 i0 (.int .i32 0) 1 4 Yba.underlying50 hi hz0 hz1 hz2 rfl (by omega) _ _ _ rfl (World.ownsRow_made w #[] 0 (Nat.le_refl _) (Nat.zero_le _) (by simp)) ad 0 C [] rfl rfl (by intro j u hj; simp at hj) (by intro u hu; simp at hu) (by unfold maxLen; omega) (by omega) (by simp) ?_)
  intro v' w' ho hg hne
  have HO : Hid (w'.ownsRow w.heap.size 21 1 v' (([] : List Int)).length ((([] : List Int)).map E32)) := ho
  have HN : Hid (v' ≠ .slice none 0 0) := hne
  have HB : Hid (Below w.heap.size w w') := ((Below.refl _ _).alloc (Nat.le_refl _) _).grown hg (by simp) (fun k hk => by cases hk; exact Nat.le_refl _)
  clear ho hg hne
  go_wp2
  go_ret
  exact ⟨v', rfl, owns_rowV HO.out HN.out, HB.out⟩

theorem Yba.cloneV (A : Option Addr) (C : Nat) (l : List Int) (w : World) (hn : l.length ≤ 65536)
    (hA : (A = none ∧ l.length = 0 ∧ C = 0) ∨ (l.length = 0 ∧ ∃ ad, A = some ad) ∨ ∃ b' o', A = some ⟨b', o', none⟩ ∧ b' < w.heap.size ∧ ∀ c, c < l.length → w.cell? ⟨b', o' + c, none⟩ = some (.int .i32 (l.getD c 0))) :
    Calls Yba.prog 13 #[.slice A l.length C] w fun e w' => ∃ v, e = .returned v ∧ RowV w.heap.size w' v l ∧ Below w.heap.size w w' := by
  rcases hA with ⟨rfl, h0, rfl⟩ | ⟨h0, ad, rfl⟩ | ⟨b', o', rfl, hb', hc⟩
  · refine (AnyE.slices_Clone_nil Yba.sl41 l.length 0 w).mono ?_
    rintro e w' ⟨rfl, rfl⟩
    exact ⟨_, rfl, Or.inl ⟨rfl, List.length_eq_zero_iff.1 h0⟩, Below.refl _ _⟩
  · obtain rfl : l = [] := List.length_eq_zero_iff.1 h0
    exact Yba.cloneE ad C w
  · obtain ⟨i0, hi, hz0, hz1, hz2⟩ := info_parts Yba.info21
    refine (AnyE.slices_Clone Yba.sl41 i0 _ 1 4 hi hz0 hz1 hz2 rfl (by omega) Yba.sizeOf21 b' o' l.length C (l.map E32) w (by simp) (by unfold maxLen; omega) (by omega) ?_ ?_).mono ?_
    · intro j u hj
      rw [List.getElem?_map] at hj
      by_cases hjl : j < l.length
      · rw [hc j hjl]
        simpa [hjl] using hj
      · rw [List.getElem?_eq_none (by omega)] at hj; cases hj
    · intro u hu
      obtain ⟨z, _, rfl⟩ := List.mem_map.1 hu
      rfl
    · rintro e w' ⟨v, rfl, ho, hne, hb⟩
      exact ⟨v, rfl, owns_rowV ho hne, hb⟩
end Go.Proofs.Ybulkzhy

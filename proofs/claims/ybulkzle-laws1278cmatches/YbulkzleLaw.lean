/-
  LawS1278CMatches, out of the contracts.
-/
import Derived.Test.YbulkzleMake
namespace Go.Proofs.Ybulkzle
open Go.RowKit Go.ChangeMaps
set_option linter.unusedVariables false
variable (a b : ByteArray) (ka kb : Bool) (ra rb : Int) (w : World)

set_option maxRecDepth 100000 in
set_option maxHeartbeats 400000 in
theorem law_nil (same hT hJ : Bool) : Calls Yba.prog 3 #[.bool true, .bool same, .bool hT, .bool hJ, .string a, .string b, .bool ka, .bool kb, .int .i64 ra, .int .i64 rb] w fun e w' => e = .returned (.bool true) ∧ Below w.heap.size w w' := by
  go_enter Yba.func3, Yba.ntmps3
  go_wp2_with (go_at_call 5; refine (kept_nil _ _ _).mono ?_; rintro e w' ⟨rfl, rfl⟩)
  go_ret
  exact ⟨rfl, ((Below.refl _ _).alloc (Nat.le_refl _) _).alloc (by simp) _⟩

/-- The two variables of the law, as they lie behind the calls. -/
structure Vars (w2 : World) : Prop where
  s0 : w2.cell? ⟨w.heap.size, 0, none⟩ = some (.string a)
  s1 : w2.cell? ⟨w.heap.size, 1, none⟩ = some (.bool ka)
  s2 : w2.cell? ⟨w.heap.size, 2, none⟩ = some (.int .i64 ra)
  j0 : w2.cell? ⟨w.heap.size + 1, 0, none⟩ = some (.string b)
  j1 : w2.cell? ⟨w.heap.size + 1, 1, none⟩ = some (.bool kb)
  j2 : w2.cell? ⟨w.heap.size + 1, 2, none⟩ = some (.int .i64 rb)
  sz : w.heap.size + 1 < w2.heap.size
  sz0 : w.heap.size < w2.heap.size
  below : Below w.heap.size w w2

theorem Vars.mk' {w1 w2 : World} (h1 : Below ((w.alloc (.cells #[.string a, .bool ka, .int .i64 ra] 38)).alloc (.cells #[.string b, .bool kb, .int .i64 rb] 38)).heap.size ((w.alloc (.cells #[.string a, .bool ka, .int .i64 ra] 38)).alloc (.cells #[.string b, .bool kb, .int .i64 rb] 38)) w1) (h2 : Below w1.heap.size w1 w2) : Vars a b ka kb ra rb w w2 := by
  have hs := h1.size
  have h := h1.trans (h2.mono hs)
  simp only [World.size_alloc] at hs
  have e0 : ∀ k, w2.cell? ⟨w.heap.size, k, none⟩ = (#[.string a, .bool ka, .int .i64 ra] : Array Value)[k]? := fun k => by
    rw [h.cell (p := ⟨w.heap.size, k, none⟩) (by simp; omega)]; simp [go_sem]
  have e1 : ∀ k, w2.cell? ⟨w.heap.size + 1, k, none⟩ = (#[.string b, .bool kb, .int .i64 rb] : Array Value)[k]? := fun k => by
    rw [h.cell (p := ⟨w.heap.size + 1, k, none⟩) (by simp)]; simp [go_sem]
  have h2s := h2.size
  exact ⟨e0 0, e0 1, e0 2, e1 0, e1 1, e1 2, by omega, by omega, (below2 w _ _).trans (h.mono (by simp; omega))⟩

set_option maxRecDepth 100000 in
set_option maxHeartbeats 1000000 in
theorem law_sT (hJ : Bool) : Calls Yba.prog 3 #[.bool false, .bool true, .bool true, .bool hJ, .string a, .string b, .bool ka, .bool kb, .int .i64 ra, .int .i64 rb] w fun e w' => e = .returned (.bool true) ∧ Below w.heap.size w w' := by
  cases hJ
  all_goals
    go_enter Yba.func3, Yba.ntmps3
    go_wp2_with fail
    refine (make_sT a b ka kb ra rb _ _).mono ?_
    rintro e w1 ⟨ob, r, t, rfl, hM⟩
    go_wp2_with fail
    refine (kept_any ob r t t a a ka ka ra ra w1 hM.cell hM.lt hM.lookT hM.lookJ).mono ?_
    rintro e w2 ⟨rfl, hB⟩
    obtain ⟨s0, s1, s2, j0, j1, j2, sz, sz0, hw⟩ := Vars.mk' a b ka kb ra rb w hM.below hB
    clear hM hB
    have HW : Hid (Below w.heap.size w w2) := hw
    clear hw
    have e : keptV a a ka ka ra = 0 := by simp [keptV]
    rw [e]
    clear e
    cases ka
    all_goals
      go_wp2
      go_ret
      exact ⟨rfl, below_more (below_more HW.out _) _⟩

set_option maxRecDepth 100000 in
set_option maxHeartbeats 1000000 in
theorem law_sF (hJ : Bool) : Calls Yba.prog 3 #[.bool false, .bool true, .bool false, .bool hJ, .string a, .string b, .bool ka, .bool kb, .int .i64 ra, .int .i64 rb] w fun e w' => e = .returned (.bool true) ∧ Below w.heap.size w w' := by
  cases hJ
  all_goals
    go_enter Yba.func3, Yba.ntmps3
    go_wp2_with fail
    refine (make_sF a b ka kb ra rb _ _).mono ?_
    rintro e w1 ⟨ob, r, t, rfl, hM⟩
    go_wp2_with fail
    refine (kept_any ob r t t ByteArray.empty ByteArray.empty false false 0 0 w1 hM.cell hM.lt hM.lookT hM.lookJ).mono ?_
    rintro e w2 ⟨rfl, hB⟩
    obtain ⟨s0, s1, s2, j0, j1, j2, sz, sz0, hw⟩ := Vars.mk' a b ka kb ra rb w hM.below hB
    clear hM hB
    have HW : Hid (Below w.heap.size w w2) := hw
    clear hw
    have e : keptV ByteArray.empty ByteArray.empty false false 0 = 0 := by simp [keptV]
    rw [e]
    clear e
    go_wp2
    go_ret
    exact ⟨rfl, below_more (below_more HW.out _) _⟩

set_option maxRecDepth 100000 in
set_option maxHeartbeats 1000000 in
theorem law_FF : Calls Yba.prog 3 #[.bool false, .bool false, .bool false, .bool false, .string a, .string b, .bool ka, .bool kb, .int .i64 ra, .int .i64 rb] w fun e w' => e = .returned (.bool true) ∧ Below w.heap.size w w' := by
  go_enter Yba.func3, Yba.ntmps3
  go_wp2_with fail
  refine (make_FF a b ka kb ra rb _).mono ?_
  rintro e w1 ⟨ob, r, t, j, rfl, hM⟩
  go_wp2_with fail
  refine (kept_any ob r t j ByteArray.empty ByteArray.empty false false 0 0 w1 hM.cell hM.lt hM.lookT hM.lookJ).mono ?_
  rintro e w2 ⟨rfl, hB⟩
  obtain ⟨s0, s1, s2, j0, j1, j2, sz, sz0, hw⟩ := Vars.mk' a b ka kb ra rb w hM.below hB
  clear hM hB
  have HW : Hid (Below w.heap.size w w2) := hw
  clear hw
  have e : keptV ByteArray.empty ByteArray.empty false false 0 = 0 := by simp [keptV]
  rw [e]
  clear e
  go_wp2
  go_ret
  exact ⟨rfl, below_more (below_more HW.out _) _⟩

set_option maxRecDepth 100000 in
set_option maxHeartbeats 1000000 in
theorem law_TF : Calls Yba.prog 3 #[.bool false, .bool false, .bool true, .bool false, .string a, .string b, .bool ka, .bool kb, .int .i64 ra, .int .i64 rb] w fun e w' => e = .returned (.bool true) ∧ Below w.heap.size w w' := by
  go_enter Yba.func3, Yba.ntmps3
  go_wp2_with fail
  refine (make_TF a b ka kb ra rb _).mono ?_
  rintro e w1 ⟨ob, r, t, j, rfl, hM⟩
  go_wp2_with fail
  refine (kept_any ob r t j a ByteArray.empty ka false ra 0 w1 hM.cell hM.lt hM.lookT hM.lookJ).mono ?_
  rintro e w2 ⟨rfl, hB⟩
  obtain ⟨s0, s1, s2, j0, j1, j2, sz, sz0, hw⟩ := Vars.mk' a b ka kb ra rb w hM.below hB
  clear hM hB
  have HW : Hid (Below w.heap.size w w2) := hw
  clear hw
  have e : keptV a ByteArray.empty ka false ra = if a.toList == ByteArray.empty.toList then 0 else if ka then ra else 0 := by cases ka <;> rfl
  rw [e]
  clear e
  rw [show ByteArray.empty.toList = [] from by decide +kernel]
  cases hab : (a.toList == [])
  all_goals
    cases ka
    all_goals
      go_wp2
      go_ret
      exact ⟨rfl, below_more (below_more HW.out _) _⟩

set_option maxRecDepth 100000 in
set_option maxHeartbeats 1000000 in
theorem law_FT : Calls Yba.prog 3 #[.bool false, .bool false, .bool false, .bool true, .string a, .string b, .bool ka, .bool kb, .int .i64 ra, .int .i64 rb] w fun e w' => e = .returned (.bool true) ∧ Below w.heap.size w w' := by
  go_enter Yba.func3, Yba.ntmps3
  go_wp2_with fail
  refine (make_FT a b ka kb ra rb _).mono ?_
  rintro e w1 ⟨ob, r, t, j, rfl, hM⟩
  go_wp2_with fail
  refine (kept_any ob r t j ByteArray.empty b false kb 0 rb w1 hM.cell hM.lt hM.lookT hM.lookJ).mono ?_
  rintro e w2 ⟨rfl, hB⟩
  obtain ⟨s0, s1, s2, j0, j1, j2, sz, sz0, hw⟩ := Vars.mk' a b ka kb ra rb w hM.below hB
  clear hM hB
  have HW : Hid (Below w.heap.size w w2) := hw
  clear hw
  have e : keptV ByteArray.empty b false kb 0 = 0 := by simp [keptV]
  rw [e]
  clear e
  cases hab : (([] : List UInt8) == b.toList)
  all_goals
    cases kb
    all_goals
      go_wp2
      go_ret
      exact ⟨rfl, below_more (below_more HW.out _) _⟩

set_option maxRecDepth 100000 in
set_option maxHeartbeats 1000000 in
theorem law_TT : Calls Yba.prog 3 #[.bool false, .bool false, .bool true, .bool true, .string a, .string b, .bool ka, .bool kb, .int .i64 ra, .int .i64 rb] w fun e w' => e = .returned (.bool true) ∧ Below w.heap.size w w' := by
  go_enter Yba.func3, Yba.ntmps3
  go_wp2_with fail
  refine (make_TT a b ka kb ra rb _).mono ?_
  rintro e w1 ⟨ob, r, t, j, rfl, hM⟩
  go_wp2_with fail
  refine (kept_any ob r t j a b ka kb ra rb w1 hM.cell hM.lt hM.lookT hM.lookJ).mono ?_
  rintro e w2 ⟨rfl, hB⟩
  obtain ⟨s0, s1, s2, j0, j1, j2, sz, sz0, hw⟩ := Vars.mk' a b ka kb ra rb w hM.below hB
  clear hM hB
  have HW : Hid (Below w.heap.size w w2) := hw
  clear hw
  unfold keptV
  cases hab : (a.toList == b.toList)
  all_goals
    cases ka
    all_goals
      cases kb
      all_goals
        go_wp2
        go_ret
        exact ⟨rfl, below_more (below_more HW.out _) _⟩
end Go.Proofs.Ybulkzle

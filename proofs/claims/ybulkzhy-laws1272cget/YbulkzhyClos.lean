/-
  seededAt's closure; sort.Search over it.
-/
import Derived.Test.YbulkzhyPick
import Derived.Test.YbulkzhySearch
namespace Go.Proofs.Ybulkzhy
open Go.RowKit
set_option linter.unusedVariables false

/-- The closure: 't.seeded[start+i].dest >= dest'. -/
theorem Yba.closure17 (B n m : Nat) (fo : Nat → Nat) (D K X : Nat → Int) (W : World) (hv : TV B n m fo D K X W) (pt ps pd s i : Nat) (d : Int) (hs : s + i < m) (hm : m ≤ 65536)
    (h1 : W.cell? ⟨pt, 0, none⟩ = some (.pointer (some ⟨B + 2, 0, none⟩))) (h2 : W.cell? ⟨ps, 0, none⟩ = some (.int .i64 s)) (h3 : W.cell? ⟨pd, 0, none⟩ = some (.int .i32 d)) :
    Calls Yba.prog 17 #[.int .i64 i, .pointer (some ⟨pt, 0, none⟩), .pointer (some ⟨ps, 0, none⟩), .pointer (some ⟨pd, 0, none⟩)] W fun e w' => e = .returned (.bool (decide (D (s + i) ≥ d))) ∧ ∃ q, w' = W.drewN q := by
  have ht1 := hv.t1
  have hsd := hv.sd (s + i) hs
  generalize D (s + i) = v at hsd
  clear hv
  go_enter Yba.func17, Yba.ntmps17
  go_wp2_with fail
  go_big_quiet (fail)
  go_wp2_with fail
  go_ret
  exact ⟨rfl, _, rfl⟩

/-- How many of x's run lie below d. -/
def below (D : Nat → Int) (s len : Nat) (d : Int) : Nat := (List.range len).countP fun i => !decide (D (s + i) ≥ d)
theorem below_le (D : Nat → Int) (s len : Nat) (d : Int) : below D s len d ≤ len := by
  have := List.countP_le_length (p := fun i => !decide (D (s + i) ≥ d)) (l := List.range len)
  simpa [below] using this

theorem Yba.enter17 : ∀ args w, (callFunc 17 args).run Yba.prog w = .ok (.enter 17 args) w := enters_of Yba.func17 (by kernel_rfl) rfl

theorem Yba.search16 (B n m : Nat) (fo : Nat → Nat) (D K X : Nat → Int) (W : World) (hv : TV B n m fo D K X W) (hF : Fo n m fo D) (pt ps pd x : Nat) (d : Int) (hx : x ≤ n) (hpt : pt < W.heap.size) (hps : ps < W.heap.size) (hpd : pd < W.heap.size)
    (h1 : W.cell? ⟨pt, 0, none⟩ = some (.pointer (some ⟨B + 2, 0, none⟩))) (h2 : W.cell? ⟨ps, 0, none⟩ = some (.int .i64 (fo x))) (h3 : W.cell? ⟨pd, 0, none⟩ = some (.int .i32 d)) :
    Calls Yba.prog 16 #[.int .i64 ((fo (x + 1) - fo x : Nat) : Int), .func (.func 17) #[] #[.pointer (some ⟨pt, 0, none⟩), .pointer (some ⟨ps, 0, none⟩), .pointer (some ⟨pd, 0, none⟩)]] W fun e w' =>
      e = .returned (.int .i64 (below D (fo x) (fo (x + 1) - fo x) d : Nat)) ∧ Below W.heap.size W w' := by
  have hm := hF.mono x hx
  have hsm := hF.small
  refine (Any.sort_Search Yba.sl16 17 #[.pointer (some ⟨pt, 0, none⟩), .pointer (some ⟨ps, 0, none⟩), .pointer (some ⟨pd, 0, none⟩)] (fo (x + 1) - fo x) (fun i => decide (D (fo x + i) ≥ d)) W Yba.enter17 (by omega) ?_ ?_).mono ?_
  · intro q os i hi
    have hb : Below W.heap.size W (Sort.grow (W.drewN q) os) := below_grown_sl _ _ _ _ (Nat.le_refl _)
    refine (Yba.closure17 B n m fo D K X _ (hv.keep hb) pt ps pd (fo x) i d (by omega) (by omega) ((hb.cell (p := ⟨pt, 0, none⟩) hpt).trans h1) ((hb.cell (p := ⟨ps, 0, none⟩) hps).trans h2) ((hb.cell (p := ⟨pd, 0, none⟩) hpd).trans h3)).mono ?_
    rintro e w' ⟨rfl, q2, rfl⟩
    exact ⟨rfl, q2, #[], by rw [Sort.grow_empty]⟩
  · intro a b hab hb ha
    have ha' : D (fo x + a) ≥ d := of_decide_eq_true ha
    refine decide_eq_true ?_
    rcases Nat.lt_or_eq_of_le hab with h | h
    · have := hF.sorted x (fo x + a) (fo x + b) hx (by omega) (by omega) (by omega)
      omega
    · subst h; exact ha'
  · rintro e w' ⟨rfl, q, os, rfl⟩
    exact ⟨rfl, below_grown_sl _ _ _ _ (Nat.le_refl _)⟩

end Go.Proofs.Ybulkzhy

/-
  The run below d, in plain words.
-/
import Derived.Test.YbulkzhyClos
namespace Go.Proofs.Ybulkzhy
set_option linter.unusedVariables false

theorem count_cut (p : Nat → Bool) : ∀ (len : Nat), (∀ a b, a ≤ b → b < len → p a = true → p b = true) → ∀ k, k < len → (p k = false ↔ k < (List.range len).countP fun i => !p i)
  | 0, _, _, h => absurd h (Nat.not_lt_zero _)
  | len + 1, hm, k, hk => by
    have ih := count_cut p len (fun a b h1 h2 h3 => hm a b h1 (by omega) h3)
    rw [List.range_succ, List.countP_append]
    simp only [List.countP_cons, List.countP_nil, Nat.zero_add]
    have hle : (List.range len).countP (fun i => !p i) ≤ len := by
      have := List.countP_le_length (p := fun i => !p i) (l := List.range len)
      simpa using this
    by_cases hp : p len = true
    · rw [hp]
      simp only [Bool.not_true, Bool.false_eq_true, if_false, Nat.add_zero]
      rcases Nat.lt_or_eq_of_le (Nat.le_of_lt_succ hk) with h | h
      · exact ih k h
      · subst h
        rw [hp]
        constructor
        · intro h; cases h
        · intro h; omega
    · have hpf : p len = false := by simpa using hp
      have hall : ∀ j, j ≤ len → p j = false := fun j hj => by
        by_cases h : p j = true
        · exact absurd (hm j len hj (by omega) h) hp
        · simpa using h
      have hc : (List.range len).countP (fun i => !p i) = len := by
        have : (List.range len).countP (fun i => !p i) = (List.range len).length := List.countP_eq_length.2 fun i hi => by
          rw [hall i (Nat.le_of_lt (List.mem_range.1 hi))]; rfl
        simpa using this
      rw [hc, hpf]
      simp only [Bool.not_false, if_true]
      exact ⟨fun _ => hk, fun _ => hall k (by omega)⟩

theorem below_spec {D : Nat → Int} {s len : Nat} {d : Int} (hs : ∀ p q, s ≤ p → p < q → q < s + len → D p ≤ D q) {k : Nat} (hk : k < len) : D (s + k) < d ↔ k < below D s len d := by
  have := count_cut (fun i => decide (D (s + i) ≥ d)) len (fun a b h1 h2 h3 => by
    have h4 : D (s + a) ≥ d := of_decide_eq_true h3
    refine decide_eq_true ?_
    rcases Nat.lt_or_eq_of_le h1 with h | h
    · have := hs (s + a) (s + b) (by omega) (by omega) (by omega); omega
    · subst h; exact h4) k hk
  unfold below
  rw [← this]
  constructor
  · intro h; exact decide_eq_false (by omega)
  · intro h; have := of_decide_eq_false h; omega

/-- At a place p of the run: below the found place iff less than d. -/
theorem run_place {n m : Nat} {fo : Nat → Nat} {D : Nat → Int} (hF : Fo n m fo D) {x : Nat} (hx : x ≤ n) (d : Int) {p : Nat} (h1 : fo x ≤ p) (h2 : p < fo (x + 1)) : D p < d ↔ p < fo x + below D (fo x) (fo (x + 1) - fo x) d := by
  have h := below_spec (D := D) (s := fo x) (len := fo (x + 1) - fo x) (d := d) (fun p q a b c => hF.sorted x p q hx a b (by omega)) (k := p - fo x) (by omega)
  rw [show fo x + (p - fo x) = p by omega] at h
  rw [h]; omega
end Go.Proofs.Ybulkzhy

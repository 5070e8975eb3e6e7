/-
  The plain mathematics of uniqueIDs: a sorted list, each item once. No Go here.
-/
import Derived.Sort.Statements
namespace Go.Proofs.Ybulkzhy.Plain
set_option linter.unusedVariables false

/-- One round: the item is kept unless it is the last one kept. -/
def stepU (acc : List Int) (x : Int) : List Int := if acc.getLast? = some x then acc else acc ++ [x]
def uniq (l : List Int) : List Int := l.foldl stepU []

theorem uniq_snoc (l : List Int) (x : Int) : uniq (l ++ [x]) = stepU (uniq l) x := by simp [uniq]
theorem uniq_nil : uniq [] = [] := rfl
theorem stepU_length (acc : List Int) (x : Int) : (stepU acc x).length ≤ acc.length + 1 := by
  unfold stepU; split <;> simp
theorem uniq_length : ∀ l : List Int, (uniq l).length ≤ l.length := by
  intro l
  induction h : l.length generalizing l with
  | zero => rw [List.length_eq_zero_iff.1 h]; simp [uniq]
  | succ n ih =>
    rcases List.eq_nil_or_concat l with rfl | ⟨l', x, rfl⟩
    · simp at h
    · rw [List.concat_eq_append] at *
      rw [uniq_snoc]
      have h1 := stepU_length (uniq l') x
      have h2 := ih l' (by simpa using h)
      omega

theorem uniq_facts : ∀ l : List Int, l.Pairwise (· ≤ ·) → (uniq l).getLast? = l.getLast? ∧ (uniq l).Pairwise (· < ·) ∧ ∀ x, x ∈ uniq l ↔ x ∈ l := by
  intro l
  induction h : l.length generalizing l with
  | zero => rw [List.length_eq_zero_iff.1 h]; simp [uniq]
  | succ n ih =>
    intro hs
    rcases List.eq_nil_or_concat l with rfl | ⟨l', x, rfl⟩
    · simp at h
    · rw [List.concat_eq_append] at *
      rw [uniq_snoc]
      have hp := List.pairwise_append.1 hs
      obtain ⟨g1, g2, g3⟩ := ih l' (by simpa using h) hp.1
      have hle : ∀ y ∈ l', y ≤ x := fun y hy => hp.2.2 y hy x (by simp)
      unfold stepU
      split
      · rename_i hl
        refine ⟨by rw [hl]; simp, g2, fun y => ?_⟩
        rw [g3 y]
        have hx : x ∈ l' := (g3 x).1 (List.mem_of_getLast? hl)
        simp
        exact fun e => e ▸ hx
      · rename_i hl
        refine ⟨by simp, ?_, fun y => by simp [g3 y]⟩
        rw [List.pairwise_append]
        refine ⟨g2, by simp, fun y hy z hz => ?_⟩
        simp at hz
        subst hz
        have h1 := hle y ((g3 y).1 hy)
        rcases Int.lt_or_eq_of_le h1 with h2 | h2
        · exact h2
        · exfalso
          subst h2
          -- y is in l', the greatest; so the last of l' is y
          have hy' := (g3 y).1 hy
          apply hl
          rw [g1]
          rcases List.eq_nil_or_concat l' with rfl | ⟨l2, u, rfl⟩
          · simp at hy'
          · rw [List.concat_eq_append] at *
            have hu : u ≤ y := hle u (by simp)
            have hp2 := List.pairwise_append.1 hp.1
            simp at hy'
            rcases hy' with hy' | hy'
            · have := hp2.2.2 y hy' u (by simp)
              simp; omega
            · simp [hy']

theorem uniq_nodup (l : List Int) (h : l.Pairwise (· ≤ ·)) : (uniq l).Nodup := by
  have := (uniq_facts l h).2.1
  exact this.imp fun h => Int.ne_of_lt h

/-- How many items of l are met for the first time. -/
def cnt : List Int → Nat := fun l => (l.foldl (fun (a : List Int × Nat) x => (a.1 ++ [x], if x ∈ a.1 then a.2 else a.2 + 1)) ([], 0)).2
theorem cnt_pre : ∀ l : List Int, (l.foldl (fun (a : List Int × Nat) x => (a.1 ++ [x], if x ∈ a.1 then a.2 else a.2 + 1)) ([], 0)).1 = l := by
  intro l
  induction h : l.length generalizing l with
  | zero => rw [List.length_eq_zero_iff.1 h]; rfl
  | succ n ih =>
    rcases List.eq_nil_or_concat l with rfl | ⟨l', x, rfl⟩
    · simp at h
    · rw [List.concat_eq_append, List.foldl_append]
      have := ih l' (by simpa using h)
      simp [this]
theorem cnt_snoc (l : List Int) (x : Int) : cnt (l ++ [x]) = if x ∈ l then cnt l else cnt l + 1 := by
  unfold cnt
  rw [List.foldl_append]
  simp only [List.foldl_cons, List.foldl_nil, cnt_pre]
theorem cnt_nil : cnt [] = 0 := rfl

/-- The items met for the first time. -/
def firsts (l : List Int) : List Int := l.foldl (fun acc x => if x ∈ acc then acc else acc ++ [x]) []
theorem firsts_snoc (l : List Int) (x : Int) : firsts (l ++ [x]) = if x ∈ firsts l then firsts l else firsts l ++ [x] := by
  unfold firsts
  rw [List.foldl_append]
  rfl
theorem firsts_facts : ∀ l : List Int, (firsts l).Nodup ∧ (∀ x, x ∈ firsts l ↔ x ∈ l) ∧ (firsts l).length = cnt l := by
  intro l
  induction h : l.length generalizing l with
  | zero => rw [List.length_eq_zero_iff.1 h]; simp [firsts, cnt]
  | succ n ih =>
    rcases List.eq_nil_or_concat l with rfl | ⟨l', x, rfl⟩
    · simp at h
    · rw [List.concat_eq_append] at *
      obtain ⟨g1, g2, g3⟩ := ih l' (by simpa using h)
      rw [firsts_snoc, cnt_snoc]
      by_cases hx : x ∈ l'
      · rw [if_pos ((g2 x).2 hx), if_pos hx]
        refine ⟨g1, fun y => ?_, g3⟩
        rw [g2 y]; simp
        exact fun e => e ▸ hx
      · rw [if_neg (fun e => hx ((g2 x).1 e)), if_neg hx]
        refine ⟨?_, fun y => by simp [g2 y], by simp [g3]⟩
        rw [List.nodup_append]
        refine ⟨g1, by simp, fun a ha b hb => ?_⟩
        simp at hb
        subst hb
        exact fun e => hx ((g2 b).1 (e ▸ ha))

theorem length_le_of_sub : ∀ (l m : List Int), l.Nodup → (∀ x ∈ l, x ∈ m) → l.length ≤ m.length
  | [], m, _, _ => by simp
  | x :: l, m, hn, hs => by
    have hx : x ∈ m := hs x (by simp)
    have h := length_le_of_sub l (m.erase x) (List.nodup_cons.1 hn).2 fun y hy => by
      have hne : y ≠ x := fun e => (List.nodup_cons.1 hn).1 (e ▸ hy)
      exact (List.mem_erase_of_ne hne).2 (hs y (by simp [hy]))
    have hl := List.length_erase_of_mem hx
    have hpos : 0 < m.length := List.length_pos_of_mem hx
    simp only [List.length_cons]
    omega

/-- The number of items of the sorted list, each once, is the number of items met for the first time in the list as it was. -/
theorem uniq_count (l s : List Int) (hs : s.Pairwise (· ≤ ·)) (hp : s.Perm l) : (uniq s).length = cnt l := by
  obtain ⟨f1, f2, f3⟩ := firsts_facts l
  obtain ⟨_, _, u3⟩ := uniq_facts s hs
  rw [← f3]
  apply Nat.le_antisymm
  · exact length_le_of_sub _ _ (uniq_nodup s hs) fun x hx => (f2 x).2 (hp.mem_iff.1 ((u3 x).1 hx))
  · exact length_le_of_sub _ _ f1 fun x hx => (u3 x).2 (hp.mem_iff.2 ((f2 x).1 hx))

/-- What the sort leaves, as lists. -/
theorem sorted_list {d d' : Array Int} (hP : Go.Sort.PermIn 0 d.size d d') (hS : Go.Sort.SortedIn Go.Sort.ltInt 0 d.size d') : d'.size = d.size ∧ d'.toList.Perm d.toList ∧ d'.toList.Pairwise (· ≤ ·) := by
  obtain ⟨h1, _, h3⟩ := hP
  refine ⟨h1, ?_, ?_⟩
  · rw [show d'.extract 0 d.size = d' by rw [← h1]; simp, show d.extract 0 d.size = d by simp] at h3
    exact h3
  · rw [List.pairwise_iff_getElem]
    intro i j hi hj hij
    simp at hi hj
    have := hS i j (Nat.zero_le _) hij (by omega)
    simp [Go.Sort.ltInt, hi, hj] at this
    simpa using this
end Go.Proofs.Ybulkzhy.Plain

/-
  One round of pdqsort in plain words: what the walk asks of it. No Go here.
-/
import Derived.Sort.Walk13a
import Derived.Sort.AssemblyPlain
namespace Go.Proofs.Ybulkzhy
open Go.Sort
set_option linter.unusedVariables false

structure Round (d : Array Int) (a b lim : Nat) (wb wp : Bool) (R : Rd Int) : Prop where
  s1 : R.d1.size = d.size
  s2 : R.d2.size = d.size
  pv : a ≤ R.pivot ∧ R.pivot < b
  cr : a ≤ R.c.1 ∧ R.c.1 < b
  s3 : R.pi.1.size = d.size
  lim_le : R.lim ≤ lim
  wbF : wb = false → R.d1 = breakPatterns d a b ∧ R.lim = lim - 1
  wbT : wb = true → R.d1 = d ∧ R.lim = lim
  c : R.c = choosePivot ltInt R.d1 a b
  dec : R.c.2 = .decreasing → R.d2 = reverseRange R.d1 a b ∧ R.pivot = (b - 1) - (R.c.1 - a) ∧ R.hint = .increasing
  ndec : R.c.2 ≠ .decreasing → R.d2 = R.d1 ∧ R.pivot = R.c.1 ∧ R.hint = R.c.2
  yes : (wb && wp && decide (R.hint = .increasing)) = true → R.pi = partialInsertionSort ltInt R.d2 a b
  no : (wb && wp && decide (R.hint = .increasing)) = false → R.pi = (R.d2, false)
  done : R.pi.2 = true → pdq ltInt d a b lim wb wp = R.pi.1
  eqq : R.pi.2 = false → (decide (a > 0) && !ltInt R.pi.1[a - 1]! R.pi.1[R.pivot]!) = true → ∀ mid d4, partitionEqual ltInt R.pi.1 a b R.pivot = (mid, d4) →
    a < mid ∧ mid ≤ b ∧ d4.size = d.size ∧ Below ltInt mid b d4 ∧ pdq ltInt d4 mid b R.lim wb wp = pdq ltInt d a b lim wb wp
  neq : R.pi.2 = false → (decide (a > 0) && !ltInt R.pi.1[a - 1]! R.pi.1[R.pivot]!) = false → ∀ mid ap d4, partition ltInt R.pi.1 a b R.pivot = (mid, ap, d4) →
    a ≤ mid ∧ mid < b ∧ d4.size = d.size ∧ Below ltInt a mid d4 ∧ Below ltInt (mid + 1) b d4 ∧
    (mid - a < b - mid → (pdq ltInt d4 a mid R.lim true true).size = d4.size ∧ Below ltInt (mid + 1) b (pdq ltInt d4 a mid R.lim true true) ∧
      pdq ltInt (pdq ltInt d4 a mid R.lim true true) (mid + 1) b R.lim (decide (mid - a ≥ (b - a) / 8)) ap = pdq ltInt d a b lim wb wp) ∧
    (¬ mid - a < b - mid → (pdq ltInt d4 (mid + 1) b R.lim true true).size = d4.size ∧ Below ltInt a mid (pdq ltInt d4 (mid + 1) b R.lim true true) ∧
      pdq ltInt (pdq ltInt d4 (mid + 1) b R.lim true true) a mid R.lim (decide (b - mid ≥ (b - a) / 8)) ap = pdq ltInt d a b lim wb wp)

theorem round_is {d : Array Int} {a b lim : Nat} {wb wp : Bool} (h12 : ¬ b - a ≤ 12) (h0 : ¬ lim = 0) (hb : b ≤ d.size) (hB : Below ltInt a b d) : ∃ R, Round d a b lim wb wp R := by
  obtain ⟨s1, B1, hc1, s2, B2, hpv, s3, B3⟩ := rd_facts (limit := lim) (wb := wb) (wp := wp) swo_ltInt partialInsertionSort_holds reverseRange_holds (show a < b by omega) hb hB
  refine ⟨rd ltInt d a b lim wb wp, s1, s2, hpv, hc1, s3, rd_lim_le, ?_, ?_, rd_c, rd_dec, rd_not, rd_pi_yes, rd_pi_no, pdq_done h12 h0, ?_, ?_⟩
  · rintro rfl; exact rd_false
  · rintro rfl; exact rd_true
  · intro h1 h2 mid d4 hx
    have h3 := h2
    simp only [Bool.and_eq_true, decide_eq_true_eq, Bool.not_eq_true'] at h3
    obtain ⟨r1, r2, r3, r4, -⟩ := round_eq swo_ltInt (partitionEqual_holds ltInt) h3.1 hpv.1 hpv.2 (by omega) B3 h3.2 hx
    refine ⟨r1, r2, r3.trans s3, r4, ?_⟩
    rw [pdq_eq h12 h0 h1 h2 (by rw [hx]; exact ⟨r1, r2⟩), hx]
  · intro h1 h2 mid ap d4 hx
    obtain ⟨r1, r2, r3, r4, r5, r6, r7⟩ := round_part swo_ltInt (partition_holds ltInt) hpv.1 hpv.2 (by omega) B3 hx
    have hs : d4.size = d.size := r3.trans s3
    refine ⟨r1, r2, hs, r4, r5, fun h4 => ?_, fun h4 => ?_⟩
    · obtain ⟨pL, sL⟩ := pdq_sorts ltInt swo_ltInt d4 a mid (rd ltInt d a b lim wb wp).lim true true r1 (by omega) r4
      refine ⟨pL.1, (r6 _ pL sL).1, ?_⟩
      rw [pdq_left h12 h0 h1 h2 (by rw [hx]; exact ⟨r1, r2⟩) (by rw [hx]; exact h4), hx]
    · obtain ⟨pL, sL⟩ := pdq_sorts ltInt swo_ltInt d4 (mid + 1) b (rd ltInt d a b lim wb wp).lim true true (by omega) (by omega) r5
      refine ⟨pL.1, (r7 _ pL sL).1, ?_⟩
      rw [pdq_right h12 h0 h1 h2 (by rw [hx]; exact ⟨r1, r2⟩) (by rw [hx]; exact h4), hx]

theorem ins_size (d : Array Int) {a b : Nat} (hab : a ≤ b) (hb : b ≤ d.size) : (insertionSort ltInt d a b).size = d.size := (insertionSort_holds swo_ltInt d a b hab hb).1.1
theorem heap_size (d : Array Int) {a b : Nat} (hab : a ≤ b) (hb : b ≤ d.size) : (heapSort ltInt d a b).size = d.size := (heapSort_holds swo_ltInt d a b hab hb).1.1

end Go.Proofs.Ybulkzhy

/-
  zzs1272ahas.
-/
import Derived.Test.YbulkzhyUniq
namespace Go.Proofs.Ybulkzhy
open Go.RowKit Plain
set_option linter.unusedVariables false

/-- A slice of identities, as a loop reads it. -/
def RowAt (w : World) (a : Option Addr) (n : Nat) (l : List Int) : Prop :=
  ∀ k, k < n → ∃ b off, a = some ⟨b, off, none⟩ ∧ b < w.heap.size ∧ w.cell? ⟨b, off + k, none⟩ = some (.int .i64 (l.getD k 0))
theorem RowAt.below {w w' : World} {a : Option Addr} {n : Nat} {l : List Int} (h : RowAt w a n l) (hb : Below w.heap.size w w') : RowAt w' a n l := by
  intro k hk
  obtain ⟨b, off, e, hlt, hc⟩ := h k hk
  exact ⟨b, off, e, Nat.lt_of_lt_of_le hlt hb.size, (hb.cell (p := ⟨b, off + k, none⟩) hlt).trans hc⟩
theorem RowAt.take {w : World} {a : Option Addr} {n m : Nat} {l : List Int} (h : RowAt w a n l) (hm : m ≤ n) : RowAt w a m (l.take m) := by
  intro k hk
  obtain ⟨b, off, e, hlt, hc⟩ := h k (by omega)
  exact ⟨b, off, e, hlt, by rw [hc]; simp [hk]⟩
theorem row_of_owns {w : World} {base n : Nat} {v : Value} {l : List Int} (hl : l.length = n) (h : w.ownsRow base 25 1 v n (l.map (Value.int .i64))) : ∃ a cap, v = .slice a n cap ∧ RowAt w a n l := by
  rcases h.2 with ⟨rfl, h0⟩ | ⟨g, cap, cur, rfl, hbase, hb, hnc, hcm, hcs, htake⟩
  · exact ⟨none, 0, by rw [h0], fun k hk => absurd hk (by omega)⟩
  · refine ⟨some ⟨g, 0, none⟩, cap, rfl, fun k hk => ⟨g, 0, rfl, (Array.getElem?_eq_some_iff.1 hb).1, ?_⟩⟩
    have := h.cells (g := g) rfl k (.int .i64 (l.getD k 0)) (by simp [hl, hk])
    rw [Addr.add_lit] at this
    exact this

set_option maxHeartbeats 1000000 in
theorem has_yes (a : Option Addr) (n c : Nat) (l : List Int) (v : Int) (w : World) (hn : n ≤ 65536) (hl : l.length = n) (hR : RowAt w a n l) (hv : v ∈ l) :
    Calls Yba.prog 8 #[.slice a n c, .int .i64 v] w fun e w' => e = .returned (.bool true) ∧ w' = w := by
  have HL : Hid (l.length = n) := hl
  have HV : Hid (v ∈ l) := hv
  clear hl hv
  go_enter Yba.func8, Yba.ntmps8
  go_wp2
  go_loop [5] (fun i => ∃ k : Nat, k ≤ n ∧ i = .int .i64 k ∧ Hid (∀ j, j < k → l.getD j 0 ≠ v)) (fun i => n - (intOf i).toNat)
  case atStart => exact ⟨0, Nat.zero_le _, rfl, fun j hj => absurd hj (by omega)⟩
  case round =>
    obtain ⟨k, hk, rfl, hno⟩ := hrel
    by_cases hlt : k < n
    · obtain ⟨b, off, ea, hb, hc⟩ := hR k hlt
      subst ea
      have hstep : Hid (l.getD k 0 ≠ v → ∀ j, j < k + 1 → l.getD j 0 ≠ v) := fun h j hj => by
        by_cases e : j = k
        · subst e; exact h
        · exact hno.out j (by omega)
      generalize l.getD k 0 = x at hc hstep
      by_cases hx : x = v
      · have hb1 : (x == v) = true := by simp [hx]
        clear hx hR
        go_wp2
        go_ret
        exact ⟨rfl, rfl⟩
      · have hb1 : (x == v) = false := by simp [hx]
        have HX : Hid (x ≠ v) := hx
        clear hx hR
        go_wp2
        go_round
        case rel => exact ⟨k + 1, by omega, by go_num, hstep.out HX.out⟩
        case measure => simp [intOf]; omega
    · exfalso
      obtain ⟨j, hj, e⟩ := List.getElem_of_mem HV.out
      refine hno.out j (by have := HL.out; omega) ?_
      simp [hj, e]

set_option maxHeartbeats 1000000 in
theorem has_no (a : Option Addr) (n c : Nat) (l : List Int) (v : Int) (w : World) (hn : n ≤ 65536) (hl : l.length = n) (hR : RowAt w a n l) (hv : v ∉ l) :
    Calls Yba.prog 8 #[.slice a n c, .int .i64 v] w fun e w' => e = .returned (.bool false) ∧ w' = w := by
  have HN : Hid (∀ k, k < n → (l.getD k 0 == v) = false) := fun k hk => by
    simp only [beq_eq_false_iff_ne]
    intro e
    apply hv
    rw [← e, List.getD_eq_getElem?_getD, List.getElem?_eq_getElem (by omega)]
    simp
  clear hl hv
  go_enter Yba.func8, Yba.ntmps8
  go_wp2
  go_loop [5] (fun i => ∃ k : Nat, k ≤ n ∧ i = .int .i64 k) (fun i => n - (intOf i).toNat)
  case atStart => exact ⟨0, Nat.zero_le _, rfl⟩
  case round =>
    obtain ⟨k, hk, rfl⟩ := hrel
    by_cases hlt : k < n
    · obtain ⟨b, off, ea, hb, hc⟩ := hR k hlt
      subst ea
      have hb1 := HN.out k hlt
      generalize l.getD k 0 = x at hc hb1
      clear hR
      go_wp2
      go_round
      case rel => exact ⟨k + 1, by omega, by go_num⟩
      case measure => simp [intOf]; omega
    · clear hR
      go_wp2
      go_ret
      exact ⟨rfl, rfl⟩
end Go.Proofs.Ybulkzhy

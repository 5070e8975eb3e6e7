/-
  The contracts of the small functions on the road of LawS1270BSeeds: the source's Uint64, rand.New, (*Rand).Uint64, (*Slot).Reset.
-/
import Derived.Test.YbulkzgwRows
import Derived.WalkKit
import Derived.WalkSpells
import Derived.WalkLawsBesides
import Derived.Deep.RegionHeld3
import Derived.Deep.QuietTactic
import Derived.BigQuiet
import Derived.Deep.OwnRows
namespace Go.Proofs.Ybulkzgw
open Go.RowKit
set_option linter.unusedVariables false

set_option maxHeartbeats 400000 in
theorem src_in (s b off len cap k : Nat) (z : Int) (w : World) (hk : k < len) (hl : len ≤ 1024)
    (h0 : w.cell? ⟨s, 0, none⟩ = some (.slice (some ⟨b, off, none⟩) len cap)) (h1 : w.cell? ⟨s, 1, none⟩ = some (.int .i64 k)) (hf : w.frozen? ⟨s, 1, none⟩ = false)
    (hc : w.cell? ⟨b, off + k, none⟩ = some (.int .u64 z)) :
    Calls Yba.prog 24 #[.pointer (some ⟨s, 0, none⟩)] w fun e w' => e = .returned (.int .u64 z) ∧ ∃ n, w' = (w.setCell ⟨s, 1, none⟩ (.int .i64 (k + 1))).drewN n := by
  go_enter Yba.func24, Yba.ntmps24
  go_wp2
  go_quiet (fail)
  go_wp2
  go_quiet (fail)
  go_wp2
  go_ret
  exact ⟨rfl, _, rfl⟩

set_option maxHeartbeats 400000 in
theorem src_out (s : Nat) (a : Option Addr) (len cap k : Nat) (w : World) (hk : ¬ k < len) (hl : len ≤ 1024) (hk2 : k ≤ 1024)
    (h0 : w.cell? ⟨s, 0, none⟩ = some (.slice a len cap)) (h1 : w.cell? ⟨s, 1, none⟩ = some (.int .i64 k)) (hf : w.frozen? ⟨s, 1, none⟩ = false) :
    Calls Yba.prog 24 #[.pointer (some ⟨s, 0, none⟩)] w fun e w' => e = .returned (.int .u64 0) ∧ ∃ n, w' = (w.setCell ⟨s, 1, none⟩ (.int .i64 (k + 1))).drewN n := by
  go_enter Yba.func24, Yba.ntmps24
  go_wp2
  go_quiet (fail)
  go_wp2
  go_ret
  exact ⟨rfl, _, rfl⟩

/-- What the source's k-th draw is: vals[k], or 0 behind the slice's end. -/
def drawn (len : Nat) (zs : List Int) (k : Nat) : Int := if k < len then zs.getD k 0 else 0

/-- The slice of numbers as the source sees it: each element lies where the slice's address says. -/
def ValsAt (w : World) (a : Option Addr) (len : Nat) (zs : List Int) : Prop :=
  ∀ k, k < len → ∃ b off, a = some ⟨b, off, none⟩ ∧ w.cell? ⟨b, off + k, none⟩ = some (.int .u64 (zs.getD k 0))

theorem src_any (s : Nat) (a : Option Addr) (len cap k : Nat) (zs : List Int) (w : World) (hl : len ≤ 1024) (hk2 : k ≤ 1024) (hv : ValsAt w a len zs)
    (h0 : w.cell? ⟨s, 0, none⟩ = some (.slice a len cap)) (h1 : w.cell? ⟨s, 1, none⟩ = some (.int .i64 k)) (hf : w.frozen? ⟨s, 1, none⟩ = false) :
    Calls Yba.prog 24 #[.pointer (some ⟨s, 0, none⟩)] w fun e w' => e = .returned (.int .u64 (drawn len zs k)) ∧ ∃ n, w' = (w.setCell ⟨s, 1, none⟩ (.int .i64 (k + 1))).drewN n := by
  by_cases hk : k < len
  · obtain ⟨b, off, rfl, hc⟩ := hv k hk
    have e : drawn len zs k = zs.getD k 0 := by simp [drawn, hk]
    rw [e]
    exact src_in s b off len cap k _ w hk hl h0 h1 hf hc
  · have e : drawn len zs k = 0 := by simp [drawn, hk]
    rw [e]
    exact src_out s a len cap k w hk hl hk2 h0 h1 hf

set_option maxHeartbeats 400000 in
theorem rand_any (r s : Nat) (a : Option Addr) (len cap k : Nat) (zs : List Int) (w : World) (hl : len ≤ 1024) (hk2 : k ≤ 1024) (hv : ValsAt w a len zs)
    (hr : w.cell? ⟨r, 0, none⟩ = some (.iface 25 (.pointer (some ⟨s, 0, none⟩))))
    (h0 : w.cell? ⟨s, 0, none⟩ = some (.slice a len cap)) (h1 : w.cell? ⟨s, 1, none⟩ = some (.int .i64 k)) (hf : w.frozen? ⟨s, 1, none⟩ = false) :
    Calls Yba.prog 7 #[.pointer (some ⟨r, 0, none⟩)] w fun e w' => e = .returned (.int .u64 (drawn len zs k)) ∧ ∃ n, w' = (w.setCell ⟨s, 1, none⟩ (.int .i64 (k + 1))).drewN n := by
  have hm : ∀ (p : Addr) (w : World), (method 183 25 (.pointer (some p)) "Uint64").run Yba.prog w = .ok (24, .pointer (some p)) w := fun _ _ => by kernel_rfl
  go_enter Yba.func7, Yba.ntmps7
  go_wp2_with (go_at_call 24; refine (src_any s a len cap k zs _ hl hk2 hv h0 h1 hf).mono ?_; rintro e w' ⟨rfl, n, rfl⟩)
  go_ret
  exact ⟨rfl, n, rfl⟩

/-- What cell o of a row of slots holds, the i-th slot's seed being d i and all else zero. -/
def slotF (d : Nat → Int) (o : Nat) : Value :=
  if o % 5 = 0 then .int .u64 (d (o / 5)) else if o % 5 = 1 then .int .u64 0 else if o % 5 = 4 then .bool false else .int .u32 0

theorem slotF0 (d : Nat → Int) (i : Nat) : slotF d (i * 5) = .int .u64 (d i) := by
  unfold slotF; rw [if_pos (by omega), show i * 5 / 5 = i by omega]
theorem slotF1 (d : Nat → Int) (i : Nat) : slotF d (i * 5 + 1) = .int .u64 0 := by
  unfold slotF; rw [if_neg (by omega), if_pos (by omega)]
theorem slotF2 (d : Nat → Int) (i : Nat) : slotF d (i * 5 + 2) = .int .u32 0 := by
  unfold slotF; rw [if_neg (by omega), if_neg (by omega), if_neg (by omega)]
theorem slotF3 (d : Nat → Int) (i : Nat) : slotF d (i * 5 + 3) = .int .u32 0 := by
  unfold slotF; rw [if_neg (by omega), if_neg (by omega), if_neg (by omega)]
theorem slotF4 (d : Nat → Int) (i : Nat) : slotF d (i * 5 + 4) = .bool false := by
  unfold slotF; rw [if_neg (by omega), if_neg (by omega), if_pos (by omega)]

/-- The world behind a Reset of the slot that begins at offset o. -/
def resetW (w : World) (b o : Nat) (z : Int) : World :=
  ((((w.setCell ⟨b, o, none⟩ (.int .u64 z)).setCell ⟨b, o + 1, none⟩ (.int .u64 0)).setCell ⟨b, o + 2, none⟩ (.int .u32 0)).setCell ⟨b, o + 3, none⟩ (.int .u32 0)).setCell ⟨b, o + 4, none⟩ (.bool false)

theorem resetW_row {w : World} {b m i : Nat} {d : Nat → Int} (z : Int) (h : w.rowIs b 42 (m * 5) (slotF d)) :
    (resetW w b (i * 5) z).rowIs b 42 (m * 5) (slotF fun j => if j = i then z else d j) := by
  refine (((((h.set (i * 5) (.int .u64 z)).set (i * 5 + 1) (.int .u64 0)).set (i * 5 + 2) (.int .u32 0)).set (i * 5 + 3) (.int .u32 0)).set (i * 5 + 4) (.bool false)).congr ?_
  intro o _
  by_cases e4 : o = i * 5 + 4
  · subst e4; simp [slotF4]
  by_cases e3 : o = i * 5 + 3
  · subst e3; simp [slotF3]
  by_cases e2 : o = i * 5 + 2
  · subst e2; simp [slotF2]
  by_cases e1 : o = i * 5 + 1
  · subst e1; simp [slotF1]
  by_cases e0 : o = i * 5
  · subst e0; simp [slotF0]
  simp only [e0, e1, e2, e3, e4, if_false]
  have hne : ¬ o / 5 = i := by omega
  unfold slotF
  simp only [hne, if_false]

theorem grownBy_set (w : World) (a : Addr) (v : Value) : w.grownBy (w.setCell a v) (some a.block) :=
  ⟨rfl, rfl, rfl, by simp, fun k _ hne => heap_setCell_other _ _ _ _ fun e => hne (by rw [e])⟩
theorem grownBy_trans {a b c : World} {r : Option Nat} (h : a.grownBy b r) (k : b.grownBy c r) : a.grownBy c r :=
  ⟨k.os.trans h.os, k.tape.trans h.tape, k.output.trans h.output, Nat.le_trans h.size k.size, fun i hi hne => (k.block i (Nat.lt_of_lt_of_le hi h.size) hne).trans (h.block i hi hne)⟩

theorem resetW_grown (w : World) (b o : Nat) (z : Int) : w.grownBy (resetW w b o z) (some b) :=
  grownBy_trans (grownBy_trans (grownBy_trans (grownBy_trans (grownBy_set w ⟨b, o, none⟩ _) (grownBy_set _ ⟨b, o + 1, none⟩ _)) (grownBy_set _ ⟨b, o + 2, none⟩ _)) (grownBy_set _ ⟨b, o + 3, none⟩ _)) (grownBy_set _ ⟨b, o + 4, none⟩ _)
theorem resetW_size (w : World) (b o : Nat) (z : Int) : (resetW w b o z).heap.size = w.heap.size := by simp [resetW]

set_option maxHeartbeats 400000 in
theorem reset_raw (b o : Nat) (z z0 : Int) (w : World) 
    (c0 : w.cell? ⟨b, o, none⟩ = some (.int .u64 z0)) (c1 : w.cell? ⟨b, o + 1, none⟩ = some (.int .u64 0)) (c2 : w.cell? ⟨b, o + 2, none⟩ = some (.int .u32 0))
    (c3 : w.cell? ⟨b, o + 3, none⟩ = some (.int .u32 0)) (c4 : w.cell? ⟨b, o + 4, none⟩ = some (.bool false))
    (f0 : w.frozen? ⟨b, o, none⟩ = false) (f1 : w.frozen? ⟨b, o + 1, none⟩ = false) (f2 : w.frozen? ⟨b, o + 2, none⟩ = false)
    (f3 : w.frozen? ⟨b, o + 3, none⟩ = false) (f4 : w.frozen? ⟨b, o + 4, none⟩ = false) :
    Calls Yba.prog 6 #[.pointer (some ⟨b, o, none⟩), .int .u64 z] w fun e w' => e = .returned (.tuple #[]) ∧ w' = resetW w b o z := by
  go_enter Yba.func6, Yba.ntmps6
  go_wp2
  go_end0
  exact ⟨rfl, rfl⟩

theorem reset_any (b i m : Nat) (z : Int) (d : Nat → Int) (w : World) (h : w.rowIs b 42 (m * 5) (slotF d)) (hi : i < m) :
    Calls Yba.prog 6 #[.pointer (some ⟨b, i * 5, none⟩), .int .u64 z] w fun e w' => e = .returned (.tuple #[]) ∧ w' = resetW w b (i * 5) z :=
  reset_raw b (i * 5) z (d i) w ((h.cell (by omega)).trans (by rw [slotF0])) ((h.cell (by omega)).trans (by rw [slotF1])) ((h.cell (by omega)).trans (by rw [slotF2]))
    ((h.cell (by omega)).trans (by rw [slotF3])) ((h.cell (by omega)).trans (by rw [slotF4])) (h.frozen _) (h.frozen _) (h.frozen _) (h.frozen _) (h.frozen _)

set_option maxHeartbeats 400000 in
theorem newrand_any (v : Value) (w : World) :
    Calls Yba.prog 8 #[.iface 25 v] w fun e w' => e = .returned (.pointer (some ⟨w.heap.size, 0, none⟩)) ∧ w' = w.alloc (.cells #[.iface 25 v] 51) := by
  go_enter Yba.func8, Yba.ntmps8
  go_wp2
  go_ret
  exact ⟨rfl, rfl⟩
end Go.Proofs.Ybulkzgw

/-
  The two rows that both laws fill ahead of appendAddrs: a row of addresses, a row of identities.
-/
import Derived.Test.YbulkzgwDoorApp
namespace Go.Proofs.YbulkzgwDoor
open Go.RowKit
set_option linter.unusedVariables false

theorem Ybad.info33 : (Ybad.prog.info? 33).map (fun i => (i.zero, i.size, i.bytes)) = some (some (.int .u32 0), 1, 4) := by kernel_rfl

/-- A slice of numbers that came in, as a loop reads it. -/
def PreAt (w : World) (a : Option Addr) (len : Nat) (zs : List Int) : Prop :=
  ∀ k, k < len → ∃ b off, a = some ⟨b, off, none⟩ ∧ b < w.heap.size ∧ w.cell? ⟨b, off + k, none⟩ = some (.int .u32 (zs.getD k 0))
theorem PreAt.below {w w' : World} {a : Option Addr} {len : Nat} {zs : List Int} (h : PreAt w a len zs) (hb : Below w.heap.size w w') : ∀ k, k < len → ∃ b off, a = some ⟨b, off, none⟩ ∧ b < w.heap.size ∧ w'.cell? ⟨b, off + k, none⟩ = some (.int .u32 (zs.getD k 0)) := by
  intro k hk
  obtain ⟨b, off, e, hlt, hc⟩ := h k hk
  exact ⟨b, off, e, hlt, (hb.cell (p := ⟨b, off + k, none⟩) hlt).trans hc⟩

/-- What cell o of a row of addresses holds. -/
def addrF (lo : Nat → Int) (pz : Nat → Option Addr) (o : Nat) : Value :=
  if o % 3 = 0 then .int .u64 0 else if o % 3 = 1 then .int .u64 (lo (o / 3)) else .pointer (pz (o / 3))
theorem addrF0 (lo : Nat → Int) (pz : Nat → Option Addr) (i : Nat) : addrF lo pz (i * 3) = .int .u64 0 := by unfold addrF; rw [if_pos (by omega)]
theorem addrF1 (lo : Nat → Int) (pz : Nat → Option Addr) (i : Nat) : addrF lo pz (i * 3 + 1) = .int .u64 (lo i) := by unfold addrF; rw [if_neg (by omega), if_pos (by omega), show (i * 3 + 1) / 3 = i by omega]
theorem addrF2 (lo : Nat → Int) (pz : Nat → Option Addr) (i : Nat) : addrF lo pz (i * 3 + 2) = .pointer (pz i) := by unfold addrF; rw [if_neg (by omega), if_neg (by omega), show (i * 3 + 2) / 3 = i by omega]

/-- The row after k of the numbers have been laid. -/
def rowK (z : Option Addr) (zs : List Int) (k : Nat) : Nat → Value := addrF (fun i => if i < k then 281470681743360 + zs.getD i 0 else 0) (fun i => if i < k then z else none)

theorem made32_row (w : World) (c : Nat) (z : Option Addr) (zs : List Int) :
    (w.alloc (.cells (madeCells #[.int .u64 0, .int .u64 0, .pointer none] (c * 3)) 32)).rowIs w.heap.size 32 (c * 3) (rowK z zs 0) := by
  refine ⟨_, Deep.blk_alloc_new _ _, size_madeCells _ _, fun i hi => ?_⟩
  have h3 : i % 3 < 3 := Nat.mod_lt _ (by omega)
  simp only [madeCells, Array.getElem?_map, Array.getElem?_range, hi, if_true, Option.map_some]
  congr 1
  have hs : (#[Value.int .u64 0, .int .u64 0, .pointer none] : Array Value).size = 3 := rfl
  rw [hs]
  simp only [rowK, addrF, Nat.not_lt_zero, if_false]
  generalize i % 3 = r at h3
  match r, h3 with
  | 0, _ => rfl
  | 1, _ => rfl
  | 2, _ => rfl

theorem run_make23 (l c : Nat) (hl : l ≤ c) (hc : c ≤ 2048) (w : World) :
    (Instr.makeSlice 23 (.int .i64 (l : Int)) (.int .i64 (c : Int))).run Ybad.prog w = .ok (.slice (some ⟨w.heap.size, 0, none⟩) l c) (w.alloc (.cells (madeCells #[.int .u64 0, .int .u64 0, .pointer none] (c * 3)) 32)) := by
  obtain ⟨i, hi, hz, hs, hb⟩ := info_parts Ybad.info32
  have h := run_make (P := Ybad.prog) w 23 32 i _ Ybad.underlying23 hi hz .i64 .i64 l c (by omega) (by omega) (by rw [hb]; omega) (by omega)
  rw [hs] at h
  simpa [Value.cells] using h
theorem run_make35 (c : Nat) (hc : c ≤ 2048) (w : World) :
    (Instr.makeSlice 35 (.int .i64 (c : Int)) (.int .i64 (c : Int))).run Ybad.prog w = .ok (.slice (some ⟨w.heap.size, 0, none⟩) c c) (w.alloc (.cells (madeCells #[.int .u32 0] c) 33)) :=
  run_make_row' 35 33 (.int .u32 0) 4 Ybad.underlying35 Ybad.info33 rfl .i64 .i64 c (by omega) (by omega) w

/-- One address laid into the row. -/
def layW (w : World) (b o : Nat) (y : Int) (z : Option Addr) : World := ((w.setCell ⟨b, o, none⟩ (.int .u64 0)).setCell ⟨b, o + 1, none⟩ (.int .u64 y)).setCell ⟨b, o + 2, none⟩ (.pointer z)
theorem lay_row {w : World} {b c k : Nat} {z : Option Addr} {zs : List Int} (h : w.rowIs b 32 (c * 3) (rowK z zs k)) : (layW w b (k * 3) (281470681743360 + zs.getD k 0) z).rowIs b 32 (c * 3) (rowK z zs (k + 1)) := by
  refine (((h.set (k * 3) (.int .u64 0)).set (k * 3 + 1) (.int .u64 (281470681743360 + zs.getD k 0))).set (k * 3 + 2) (.pointer z)).congr ?_
  intro o _
  unfold rowK
  by_cases e2 : o = k * 3 + 2
  · subst e2; simp [addrF2]
  by_cases e1 : o = k * 3 + 1
  · subst e1; simp [addrF1]
  by_cases e0 : o = k * 3
  · subst e0; simp [addrF0]
  simp only [e0, e1, e2, if_false]
  have hne : (o / 3 < k + 1) = (o / 3 < k) := by
    have : o / 3 ≠ k := by omega
    exact propext ⟨fun h => by omega, fun h => by omega⟩
  unfold addrF
  simp only [hne]
theorem layW_below {w : World} {B b o : Nat} {y : Int} {z : Option Addr} {W : World} (h : Below B W w) (hb : B ≤ b) : Below B W (layW w b o y z) := ((h.setCell (p := ⟨b, o, none⟩) hb _).setCell (p := ⟨b, o + 1, none⟩) hb _).setCell (p := ⟨b, o + 2, none⟩) hb _
theorem layW_size (w : World) (b o : Nat) (y : Int) (z : Option Addr) : (layW w b o y z).heap.size = w.heap.size := by simp [layW]

/-- The row when all numbers are laid is what appendAddrs takes. -/
theorem row_owns {w : World} {B b c n : Nat} {z : Option Addr} {zs : List Int} (h : w.rowIs b 32 (c * 3) (rowK z zs n)) (hB : B ≤ b) (hn : zs.length = n) (hnc : n ≤ c) (hc : c ≤ 2048) :
    w.ownsRow B 32 3 (.slice (some ⟨b, 0, none⟩) n c) n (flatA z zs) := by
  obtain ⟨cur, hb, hs, hcur⟩ := h
  refine ⟨by rw [flatA_length, hn], .inr ⟨b, c, cur, rfl, hB, hb, hnc, by unfold maxLen; omega, hs, ?_⟩⟩
  apply List.ext_getElem?
  intro j
  rw [List.getElem?_take]
  by_cases hj : j < n * 3
  · rw [if_pos hj]
    have hd : j / 3 < zs.length := by omega
    have e := flatA_get z zs (j / 3) (j % 3) hd (Nat.mod_lt _ (by omega))
    rw [show j / 3 * 3 + j % 3 = j by omega] at e
    rw [e]
    have := hcur j (by omega)
    rw [Array.getElem?_toList, this]
    have hdn : j / 3 < n := by omega
    simp only [rowK, addrF, hdn, if_true, addrCells]
    have h3 : j % 3 < 3 := Nat.mod_lt _ (by omega)
    generalize j % 3 = r at h3
    match r, h3 with
    | 0, _ => rfl
    | 1, _ => rfl
    | 2, _ => rfl
  · rw [if_neg hj, List.getElem?_eq_none]
    rw [flatA_length]; omega

/-- The row of identities after k of them have been laid. -/
def idK (zs : List Int) (k : Nat) : Nat → Value := fun i => .int .u32 (if i < k then zs.getD i 0 else 0)
theorem made33_row (w : World) (c : Nat) (zs : List Int) : (w.alloc (.cells (madeCells #[.int .u32 0] c) 33)).rowIs w.heap.size 33 c (idK zs 0) :=
  (World.rowIs_made w (.int .u32 0) c 33).congr fun i _ => by simp [idK]
theorem id_row {w : World} {b c k : Nat} {zs : List Int} (h : w.rowIs b 33 c (idK zs k)) : (w.setCell ⟨b, k, none⟩ (.int .u32 (zs.getD k 0))).rowIs b 33 c (idK zs (k + 1)) := by
  refine (h.set k _).congr fun i _ => ?_
  unfold idK
  by_cases e : i = k
  · subst e; simp
  · have : (i < k + 1) = (i < k) := propext ⟨fun h => by omega, fun h => by omega⟩
    simp only [e, if_false, this]
theorem id_row_done {w : World} {b c : Nat} {zs : List Int} (h : w.rowIs b 33 c (idK zs c)) : w.rowIs b 33 c (fun k => .int .u32 (zs.getD k 0)) := h.congr fun i hi => by simp [idK, hi]
end Go.Proofs.YbulkzgwDoor

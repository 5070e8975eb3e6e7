/-
  A map keyed by pointers, of at most two entries: the runs of its operations.
-/
import Derived.Test.YbulkzleRows
import Derived.WalkKit
import Derived.WalkSpells
import Derived.WalkLawsBesides
import Derived.LaidEqlPtr
import Derived.MapKept
import Derived.ChangeMaps4
namespace Go.Proofs.Ybulkzle
open Go.RowKit Go.ChangeMaps
set_option linter.unusedVariables false

def zeroS : Value := .agg #[.string ByteArray.empty, .bool false, .int .i64 0]

theorem zero38 (w : World) : (zeroValue 38).run Yba.prog w = .ok zeroS w := by kernel_rfl
theorem info36 : ∃ j, Yba.prog.info? 36 = some j ∧ j.size ≠ 0 := by
  have h : (Yba.prog.info? 36).map (fun i => decide (i.size ≠ 0)) = some true := by kernel_rfl
  obtain ⟨j, hj, hd⟩ := Option.map_eq_some_iff.1 h
  exact ⟨j, hj, by simpa using hd⟩

/-- The two jobs' blocks are plain rows of cells. -/
def Plain (w : World) (b : Nat) : Prop := ∃ c t, w.heap[b]? = some (.cells c t (0, 0))

theorem eq_same (w : World) (a : Addr) : (Op.equal 24 (.pointer (some a)) (.pointer (some a))).run Yba.prog w = .ok true w := by
  obtain ⟨j, hj, hs⟩ := info36
  have h : ∀ d : Nat, (Op.equalIn (d + 1) 24 (.pointer (some a)) (.pointer (some a))).run Yba.prog w = .ok true w := fun d => by
    simp [Op.equalIn, run_underlying Yba.underlying24, sizeOf, typeInfo, hj, run_sameAddr_same]
  exact h 9999
theorem eq_other (w : World) {a b : Addr} (hne : a ≠ b) (ha : Plain w a.block) (hb : Plain w b.block) : (Op.equal 24 (.pointer (some a)) (.pointer (some b))).run Yba.prog w = .ok false w := by
  obtain ⟨j, hj, hs⟩ := info36
  obtain ⟨ca, ta, ha⟩ := ha
  obtain ⟨cb, tb, hb⟩ := hb
  have h : ∀ d : Nat, (Op.equalIn (d + 1) 24 (.pointer (some a)) (.pointer (some b))).run Yba.prog w = .ok false w := fun d => by
    simp [Op.equalIn, run_underlying Yba.underlying24, sizeOf, typeInfo, hj, hs, run_sameAddr_other w hne ha hb]
  exact h 9999

theorem check_ptr (e : Bool) (w : World) (p : Option Addr) : (Instr.checkKey e 10000 24 (.pointer p)).run Yba.prog w = .ok () w := by
  have h : ∀ n : Nat, (Instr.checkKey e (n + 1) 24 (.pointer p)).run Yba.prog w = .ok () w := fun n => by
    simp [Instr.checkKey, run_underlying Yba.underlying24]
  exact h 9999

theorem find_nil (w : World) (k : Value) : (Instr.findKey 24 k []).run Yba.prog w = .ok none w := by
  simp [Instr.findKey, run_underlying Yba.underlying24, Instr.findNow]
theorem find_hit (w : World) (a : Addr) (v : Value) (n : Nat) (es : List MapEntry) : (Instr.findKey 24 (.pointer (some a)) (⟨.pointer (some a), v, n⟩ :: es)).run Yba.prog w = .ok (some (0, v)) w := by
  simp [Instr.findKey, run_underlying Yba.underlying24, Instr.findNow, Instr.sameNow, Instr.findAsking, eq_same]
theorem find_miss1 (w : World) {a b : Addr} (hne : a ≠ b) (ha : Plain w a.block) (hb : Plain w b.block) (v : Value) (n : Nat) : (Instr.findKey 24 (.pointer (some a)) [⟨.pointer (some b), v, n⟩]).run Yba.prog w = .ok none w := by
  simp [Instr.findKey, run_underlying Yba.underlying24, Instr.findNow, Instr.sameNow, Instr.findAsking, eq_other w hne ha hb]
theorem find_second (w : World) {a b : Addr} (hne : a ≠ b) (ha : Plain w a.block) (hb : Plain w b.block) (v v2 : Value) (n n2 : Nat) : (Instr.findKey 24 (.pointer (some a)) [⟨.pointer (some b), v, n⟩, ⟨.pointer (some a), v2, n2⟩]).run Yba.prog w = .ok (some (1, v2)) w := by
  simp [Instr.findKey, run_underlying Yba.underlying24, Instr.findNow, Instr.sameNow, Instr.findAsking, eq_other w hne ha hb, eq_same]

theorem look_nil (w : World) (p : Option Addr) : (Instr.lookup 43 (.map none) (.pointer p) false).run Yba.prog w = .ok zeroS w := by
  simp [Instr.lookup, run_underlying Yba.underlying43, check_ptr, find_nil]
  rfl
theorem look_hit (w : World) (mb : Nat) (a : Addr) (v : Value) (n c : Nat) (es : List MapEntry) (hm : w.heap[mb]? = some (.map (⟨.pointer (some a), v, n⟩ :: es).toArray c)) :
    (Instr.lookup 43 (.map (some mb)) (.pointer (some a)) false).run Yba.prog w = .ok v w := by
  simp [Instr.lookup, run_underlying Yba.underlying43, MapKept.run_getObj_map hm, check_ptr, find_hit]
theorem look_miss1 (w : World) (mb : Nat) {a b : Addr} (hne : a ≠ b) (ha : Plain w a.block) (hb : Plain w b.block) (v : Value) (n c : Nat) (hm : w.heap[mb]? = some (.map #[⟨.pointer (some b), v, n⟩] c)) :
    (Instr.lookup 43 (.map (some mb)) (.pointer (some a)) false).run Yba.prog w = .ok zeroS w := by
  simp [Instr.lookup, run_underlying Yba.underlying43, MapKept.run_getObj_map hm, check_ptr, find_miss1 w hne ha hb]
  rfl
theorem look_second (w : World) (mb : Nat) {a b : Addr} (hne : a ≠ b) (ha : Plain w a.block) (hb : Plain w b.block) (v v2 : Value) (n n2 c : Nat) (hm : w.heap[mb]? = some (.map #[⟨.pointer (some b), v, n⟩, ⟨.pointer (some a), v2, n2⟩] c)) :
    (Instr.lookup 43 (.map (some mb)) (.pointer (some a)) false).run Yba.prog w = .ok v2 w := by
  simp [Instr.lookup, run_underlying Yba.underlying43, MapKept.run_getObj_map hm, check_ptr, find_second w hne ha hb]

theorem upd_first (w : World) (mb : Nat) (a : Addr) (v : Value) (hm : w.heap[mb]? = some (.map #[] 0)) :
    (Instr.mapUpdate 43 (.map (some mb)) (.pointer (some a)) v).run Yba.prog w = .ok () (setBlock w mb (.map #[⟨.pointer (some a), v, 0⟩] 1)) := by
  simp [Instr.mapUpdate, run_underlying Yba.underlying43, MapKept.run_getObj_map hm, check_ptr, find_nil, MapKept.run_setObj_map _ hm, Result.andThen, setBlock]
theorem upd_second (w : World) (mb : Nat) {a b : Addr} (hne : a ≠ b) (ha : Plain w a.block) (hb : Plain w b.block) (v v2 : Value) (hm : w.heap[mb]? = some (.map #[⟨.pointer (some b), v, 0⟩] 1)) :
    (Instr.mapUpdate 43 (.map (some mb)) (.pointer (some a)) v2).run Yba.prog w = .ok () (setBlock w mb (.map #[⟨.pointer (some b), v, 0⟩, ⟨.pointer (some a), v2, 1⟩] 2)) := by
  simp [Instr.mapUpdate, run_underlying Yba.underlying43, MapKept.run_getObj_map hm, check_ptr, find_miss1 w hne ha hb, MapKept.run_setObj_map _ hm, Result.andThen, setBlock]
end Go.Proofs.Ybulkzle

/-
  The sort at []int32, the ground: a row of int32 cells behind 'At' (the kit's word), its exchange; cmp.Less[int32].
-/
import Derived.Test.YbulkzhyRows
import Derived.Sort.Walk13a
import Derived.Sort.WalkA
import Derived.Sort.AssemblyPlain
import Derived.Lib.Walk
import Derived.WalkKit
import Derived.BigGuard
import Derived.BigCall
import Derived.CellFam
import Derived.Deep.Draws
import Derived.Deep.QuietTactic
import Derived.BigQuiet
namespace Go.Proofs.Ybulkzhy
open Go.RowKit Go.Sort
set_option linter.unusedVariables false

abbrev E32 : Int → Value := Value.int .i32

theorem At.drawn {w wr : World} {blk off : Nat} {d : Array Int} (h : At E32 w blk off d wr) (q : Nat) : At E32 w blk off d (wr.drewN q) := h.ahead q

theorem At.trans {w wr w1 : World} {blk off : Nat} {d d' : Array Int} (h : At E32 w blk off d wr) (hb : blk < w.heap.size) (hs : d'.size = d.size) (h1 : At E32 wr blk off d' w1) : At E32 w blk off d' w1 :=
  h.stepG hb hs h1

theorem setCell_grow_old (W : World) (os : Array Obj) (blk o : Nat) (v : Value) (h : blk < W.heap.size) : (grow W os).setCell ⟨blk, o, none⟩ v = grow (W.setCell ⟨blk, o, none⟩ v) os := by
  rw [setCell_eq, setCell_eq, mapBlock_grow _ _ _ _ h]

/-- 'data[j], data[k] = data[k], data[j]', some draws on. -/
theorem At.swap {w wr : World} {blk off : Nat} {d : Array Int} (h : At E32 w blk off d wr) (hb : blk < w.heap.size) (q j k : Nat) (hj : j < d.size) (hk : k < d.size) {x y : Int} (hx : x = d[k]!) (hy : y = d[j]!) :
    At E32 w blk off (swp d j k) (((wr.drewN q).setCell ⟨blk, off + j, none⟩ (.int .i32 x)).setCell ⟨blk, off + k, none⟩ (.int .i32 y)) := by
  subst hx; subst hy
  obtain ⟨n, os, e⟩ := At.drawn h q
  rw [e]
  refine ⟨n, os, ?_⟩
  rw [setCell_grow_old _ _ _ _ _ (by simpa using hb), setCell_grow_old _ _ _ _ _ (by rw [setCell_eq]; simpa [mapBlock] using hb)]
  exact congrArg (grow · os) (putRow_swp E32 _ blk off d j k hj hk)

theorem At.swap1 {w wr : World} {blk off : Nat} {d : Array Int} (h : At E32 w blk off d wr) (hb : blk < w.heap.size) (j k : Nat) (hj : j < d.size) (hk : k < d.size) {x y : Int} (hx : x = d[k]!) (hy : y = d[j]!) :
    At E32 w blk off (swp d j k) ((wr.setCell ⟨blk, off + j, none⟩ (.int .i32 x)).setCell ⟨blk, off + k, none⟩ (.int .i32 y)).drew :=
  At.swap h hb 1 j k hj hk hx hy

/-- The row as a walk reads it. -/
theorem At.cells {w wr : World} {blk off N : Nat} {d d0 : Array Int} (h : At E32 w blk off d wr) (h0 : Holds E32 w blk off d0) (hN : d0.size = N) (hs : d.size = N) (hb : blk < w.heap.size) :
    (∀ t, t < N → wr.cell? ⟨blk, off + t, none⟩ = some (.int .i32 d[t]!)) ∧ (∀ t, t < N → wr.frozen? ⟨blk, off + t, none⟩ = false) ∧ blk < wr.heap.size ∧ Holds E32 wr blk off d := by
  obtain ⟨h1, h2⟩ := At.holds h h0 (hs.trans hN.symm) hb
  exact ⟨fun t ht => (h1 t (by omega)).1, fun t ht => (h1 t (by omega)).2, h2, h1⟩

theorem Yba.isNaN32 (x : Int) (w : World) : Calls Yba.prog 46 #[.int .i32 x] w fun e w' => e = .returned (.bool false) ∧ w' = w := by
  go_enter Yba.func46, Yba.ntmps46
  go_wp2
  go_ret
  exact ⟨by simp, rfl⟩

theorem Yba.less32 (x y : Int) (w : World) : Calls Yba.prog 28 #[.int .i32 x, .int .i32 y] w fun e w' => e = .returned (.bool (ltInt x y)) ∧ w' = w := by
  go_enter Yba.func28, Yba.ntmps28
  go_wp2_with (go_at_call 46; refine (Yba.isNaN32 _ _).mono ?_; rintro e w' ⟨rfl, rfl⟩)
  go_ret
  exact ⟨rfl, rfl⟩

end Go.Proofs.Ybulkzhy

/-
  slices.order2Ordered, medianOrdered, medianAdjacentOrdered [int32]: the row is only read; '*swaps' counts.
-/
import Derived.Test.YbulkzhyRow32
import Derived.Sort.LotD4
import Derived.Sort.WalkD2
import Derived.Deep.RegionWith
import Derived.Sort.AtCall
namespace Go.Proofs.Ybulkzhy
open Go.RowKit Go.Sort
set_option linter.unusedVariables false

/-- A cell of a new block turns: the row is as it was. -/
theorem At.fresh {w wr : World} {blk off : Nat} {d : Array Int} (h : At E32 w blk off d wr) {g : Nat} (hg : w.heap.size ≤ g) (o : Nat) (v : Value) : At E32 w blk off d (wr.setCell ⟨g, o, none⟩ v) := by
  obtain ⟨n, os, rfl⟩ := h
  rw [setCell_eq, mapBlock_grow_new _ _ _ _ (by simpa using hg)]
  exact ⟨n, _, rfl⟩

/-- The row d, and the counter s in the cell ⟨g, 0⟩ of a new block. -/
structure Cnt (w : World) (blk off : Nat) (d : Array Int) (g s : Nat) (W : World) : Prop where
  row : At E32 w blk off d W
  cell : W.cell? ⟨g, 0, none⟩ = some (.int .i64 s)
  froz : W.frozen? ⟨g, 0, none⟩ = false

theorem Cnt.drawn {w W : World} {blk off g s : Nat} {d : Array Int} (h : Cnt w blk off d g s W) (q : Nat) : Cnt w blk off d g s (W.drewN q) := ⟨At.drawn h.row q, h.cell, h.froz⟩
theorem Cnt.store {w W : World} {blk off g s : Nat} {d : Array Int} (h : Cnt w blk off d g s W) (hg : w.heap.size ≤ g) (t : Nat) : Cnt w blk off d g t (W.setCell ⟨g, 0, none⟩ (.int .i64 t)) :=
  ⟨At.fresh h.row hg 0 _, World.cell?_setCell_same' _ _ _ (by rw [h.cell]; rfl), by rw [setCell_eq, frozen?_mapBlock]; exact h.froz⟩

/-- What all three ask of their ground. -/
structure Gnd (w : World) (blk off N : Nat) (d : Array Int) (g : Nat) : Prop where
  holds : Holds E32 w blk off d
  size : d.size = N
  blk : blk < w.heap.size
  new : w.heap.size ≤ g
  small : N < 4611686018427387904

set_option maxHeartbeats 1000000 in
theorem Yba.order32 (w : World) (blk off cap N : Nat) (d : Array Int) (g : Nat) (hg : Gnd w blk off N d g) (a b s : Nat) (W : World) (hW : Cnt w blk off d g s W) (ha : a < N) (hb : b < N) (hs : s < 100) :
    Calls Yba.prog 52 #[.slice (some ⟨blk, off, none⟩) N cap, .int .i64 a, .int .i64 b, .pointer (some ⟨g, 0, none⟩)] W fun e w' =>
      e = .returned (.tuple #[.int .i64 (order2 ltInt d a b s).1, .int .i64 (order2 ltInt d a b s).2.1]) ∧ Cnt w blk off d g (order2 ltInt d a b s).2.2 w' := by
  obtain ⟨G, hG⟩ : ∃ G : Nat → Int, ∀ t, G t = d[t]! := ⟨fun t => d[t]!, fun _ => rfl⟩
  obtain ⟨hcw, hfw, -, -⟩ := At.cells hW.row hg.holds hg.size hg.size hg.blk
  simp only [← hG] at hcw
  have hsz := hg.small
  have HG : Hid (∀ t, G t = d[t]!) := hG
  have HW : Hid (Cnt w blk off d g s W) := hW
  have HN : Hid (w.heap.size ≤ g) := hg.new
  have hgc := hW.cell
  have hgf := hW.froz
  clear hG hW hg
  go_enter Yba.func52, Yba.ntmps52
  go_wp2
  go_quiet (first | (go_at_call 28; refine Calls.quiet_of_same (Yba.less32 _ _ _)))
  go_wp2
  · have hl : ltInt (G b) (G a) = true := by assumption
    have HO : Hid (order2 ltInt d a b s = (b, a, s + 1)) := by
      show order2 ltInt d a b s = (b, a, s + 1)
      unfold order2; rw [← HG.out, ← HG.out, hl]; rfl
    go_ret2
    refine ⟨by rw [HO.out]; rfl, ?_⟩
    rw [HO.out]
    exact Cnt.store (HW.out.drawn nq) HN.out (s + 1)
  · have hl : ltInt (G b) (G a) = false := by assumption
    have HO : Hid (order2 ltInt d a b s = (a, b, s)) := by
      show order2 ltInt d a b s = (a, b, s)
      unfold order2; rw [← HG.out, ← HG.out, hl]; rfl
    go_ret2
    refine ⟨by rw [HO.out]; rfl, ?_⟩
    rw [HO.out]
    exact HW.out.drawn nq

theorem ord_mem {d : Array Int} {a b s n : Nat} (ha : a < n) (hb : b < n) : (order2 ltInt d a b s).1 < n ∧ (order2 ltInt d a b s).2.1 < n := by
  have := order2_mem ltInt d a b s
  omega

set_option maxHeartbeats 1000000 in
theorem Yba.median32 (w : World) (blk off cap N : Nat) (d : Array Int) (g : Nat) (hg : Gnd w blk off N d g) (a b c s : Nat) (W : World) (hW : Cnt w blk off d g s W) (ha : a < N) (hb : b < N) (hc : c < N) (hs : s < 90) :
    Calls Yba.prog 45 #[.slice (some ⟨blk, off, none⟩) N cap, .int .i64 a, .int .i64 b, .int .i64 c, .pointer (some ⟨g, 0, none⟩)] W fun e w' =>
      e = .returned (.int .i64 (median ltInt d a b c s).1) ∧ Cnt w blk off d g (median ltInt d a b c s).2 w' := by
  obtain ⟨a1, b1, s1, h1⟩ : ∃ x y z, order2 ltInt d a b s = (x, y, z) := ⟨(order2 ltInt d a b s).1, (order2 ltInt d a b s).2.1, (order2 ltInt d a b s).2.2, rfl⟩
  obtain ⟨b2, c2, s2, h2⟩ : ∃ x y z, order2 ltInt d b1 c s1 = (x, y, z) := ⟨(order2 ltInt d b1 c s1).1, (order2 ltInt d b1 c s1).2.1, (order2 ltInt d b1 c s1).2.2, rfl⟩
  obtain ⟨a3, b3, s3, h3⟩ : ∃ x y z, order2 ltInt d a1 b2 s2 = (x, y, z) := ⟨(order2 ltInt d a1 b2 s2).1, (order2 ltInt d a1 b2 s2).2.1, (order2 ltInt d a1 b2 s2).2.2, rfl⟩
  have m1 := ord_mem (d := d) (s := s) ha hb
  have k1 := order2_count ltInt d a b s
  rw [h1] at m1 k1
  have m2 := ord_mem (d := d) (s := s1) m1.2 hc
  have k2 := order2_count ltInt d b1 c s1
  rw [h2] at m2 k2
  simp only [] at m1 k1 m2 k2
  have hm : median ltInt d a b c s = (b3, s3) := by simp only [median, h1, h2, h3]
  have C1 := Yba.order32 w blk off cap N d g hg a b s W hW ha hb (by omega)
  rw [h1] at C1
  have C2 : ∀ W, Cnt w blk off d g s1 W → Calls Yba.prog 52 #[.slice (some ⟨blk, off, none⟩) N cap, .int .i64 b1, .int .i64 c, .pointer (some ⟨g, 0, none⟩)] W fun e w' => e = .returned (.tuple #[.int .i64 b2, .int .i64 c2]) ∧ Cnt w blk off d g s2 w' := fun W h => by
    have := Yba.order32 w blk off cap N d g hg b1 c s1 W h m1.2 hc (by omega)
    rw [h2] at this; exact this
  have C3 : ∀ W, Cnt w blk off d g s2 W → Calls Yba.prog 52 #[.slice (some ⟨blk, off, none⟩) N cap, .int .i64 a1, .int .i64 b2, .pointer (some ⟨g, 0, none⟩)] W fun e w' => e = .returned (.tuple #[.int .i64 a3, .int .i64 b3]) ∧ Cnt w blk off d g s3 w' := fun W h => by
    have := Yba.order32 w blk off cap N d g hg a1 b2 s2 W h m1.1 m2.1 (by omega)
    rw [h3] at this; exact this
  rw [hm]
  clear hW hg hm h1 h2 h3
  go_enter Yba.func45, Yba.ntmps45
  go_wp2_with (go_at_call_has 52 (Value.int .i64 (b : Int)); refine C1.mono ?_; rintro e w1 ⟨rfl, hw1⟩)
  go_wp2_with (go_at_call_has 52 (Value.int .i64 (c : Int)); refine (C2 _ hw1).mono ?_; rintro e w2 ⟨rfl, hw2⟩)
  go_wp2_with (go_at_call_has 52 (Value.int .i64 (a1 : Int)); refine (C3 _ hw2).mono ?_; rintro e w3 ⟨rfl, hw3⟩)
  go_ret
  exact ⟨rfl, hw3⟩

set_option maxHeartbeats 1000000 in
theorem Yba.medAdj32 (w : World) (blk off cap N : Nat) (d : Array Int) (g : Nat) (hg : Gnd w blk off N d g) (a s : Nat) (W : World) (hW : Cnt w blk off d g s W) (h1 : 1 ≤ a) (ha : a + 1 < N) (hs : s < 90) :
    Calls Yba.prog 44 #[.slice (some ⟨blk, off, none⟩) N cap, .int .i64 a, .pointer (some ⟨g, 0, none⟩)] W fun e w' =>
      e = .returned (.int .i64 (medianAdjacent ltInt d a s).1) ∧ Cnt w blk off d g (medianAdjacent ltInt d a s).2 w' := by
  have hsz := hg.small
  have C1 := Yba.median32 w blk off cap N d g hg (a - 1) a (a + 1) s W hW (by omega) (by omega) (by omega) hs
  have e1 : ((a - 1 : Nat) : Int) = (a : Int) - 1 := by omega
  rw [e1, Int.natCast_add, Int.natCast_one] at C1
  clear hW hg e1
  go_enter Yba.func44, Yba.ntmps44
  go_wp2_with (go_at_call 45; refine C1.mono ?_; rintro e w1 ⟨rfl, hw1⟩)
  go_ret
  exact ⟨rfl, hw1⟩
end Go.Proofs.Ybulkzhy

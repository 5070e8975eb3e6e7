/-
  The closure that LawS1270BSeeds hands to newBrahmsNode: called on an empty log it leaves a log of the one identity.
-/
import Derived.Test.YbulkzgwNew
import Derived.Deep.AppendLies
namespace Go.Proofs.Ybulkzgw
open Go.RowKit
set_option linter.unusedVariables false

theorem Yba.info29 : (Yba.prog.info? 29).map (fun i => (i.zero, i.size, i.bytes)) = some (some (.int .u32 0), 1, 4) := by kernel_rfl

set_option maxHeartbeats 400000 in
theorem key_any (p : Int) (lb : Nat) (w : World) (hlb : lb < w.heap.size) (hc : w.cell? ⟨lb, 0, none⟩ = some (.slice none 0 0)) (hf : w.frozen? ⟨lb, 0, none⟩ = false) :
    Calls Yba.prog 4 #[.int .u32 p, .pointer (some ⟨lb, 0, none⟩)] w fun e w' => e = .returned (.agg #[.int .u64 0, .int .u32 0, .int .u8 0]) ∧
      ∃ g cap, w'.cell? ⟨lb, 0, none⟩ = some (.slice (some ⟨g, 0, none⟩) 1 cap) ∧ w'.cell? ⟨g, 0, none⟩ = some (.int .u32 p) ∧ w.heap.size ≤ g ∧ w.grownBy w' (some lb) := by
  obtain ⟨i0, hi, hz0, hz1, hz2⟩ := info_parts Yba.info29
  go_enter Yba.func4, Yba.ntmps4
  go_wp2_with (at_builtin; refine wpList_append_lies _ rfl _ _ _ rfl (w.heap.size) 29 i0 (.int .u32 0) 1 4 Yba.underlying28 hi hz0 hz1 hz2 rfl (by decide) (.slice none 0 0) 0 [] rfl (World.ownsRow_nil _ _ _ _) ⟨w.heap.size + 1, 0, none⟩ 1 1 [.int .u32 p] rfl rfl ?c1 ?c2 (by decide) (by decide) (by decide) ?c5 (w.heap.size + 1 + 1) ?c6 ?_)
  case c1 =>
    intro j u hj
    match j, hj with
    | 0, hj => simp at hj; subst hj; simp [Addr.add, go_sem]
  case c2 => intro u hu; simp at hu; subst hu; rfl
  case c5 => simp; omega
  case c6 => simp
  · intro g cap w1 hown hgrow hat hlt
    have hg : g = w.heap.size + 1 + 1 := by
      rcases hat with h | h
      · cases h
      · exact h
    have old : ∀ b, b < w.heap.size + 1 + 1 → w1.heap[b]? = ((w.alloc (.cells #[.int .u64 0, .int .u32 0, .int .u8 0] 32)).alloc (.cells #[.int .u32 p] 29)).heap[b]? := fun b hb => hgrow.block b (by simp; exact hb) (by simp [Value.ownBlock])
    have oldw : ∀ b, b < w.heap.size → w1.heap[b]? = w.heap[b]? := fun b hb => (old b (by omega)).trans (by
      rw [Below.heap_alloc _ _ _ (by simp; omega), Below.heap_alloc _ _ _ hb])
    have c0 : w1.cell? ⟨lb, 0, none⟩ = some (.slice none 0 0) := (World.cell?_of_block (a := ⟨lb, 0, none⟩) (oldw lb hlb)).trans hc
    have f0 : w1.frozen? ⟨lb, 0, none⟩ = false := (World.frozen?_of_block (a := ⟨lb, 0, none⟩) (oldw lb hlb)).trans hf
    have hR : w1.heap[w.heap.size]? = some (.cells #[.int .u64 0, .int .u32 0, .int .u8 0] 32 (0, 0)) := (old _ (by omega)).trans (by
      rw [Below.heap_alloc _ _ _ (by simp), heap_alloc_new])
    have r0 : w1.cell? ⟨w.heap.size, 0, none⟩ = some (.int .u64 0) := cell_of_heap hR 0
    have r1 : w1.cell? ⟨w.heap.size, 1, none⟩ = some (.int .u32 0) := cell_of_heap hR 1
    have r2 : w1.cell? ⟨w.heap.size, 2, none⟩ = some (.int .u8 0) := cell_of_heap hR 2
    have rf : ∀ j, w1.frozen? ⟨w.heap.size, j, none⟩ = false := fun j => by simp [World.frozen?, hR]
    have hne : ¬ lb = w.heap.size := by omega
    have hgc : w1.cell? ⟨g, 0, none⟩ = some (.int .u32 p) := by
      have := hown.cells (g := g) rfl 0 _ rfl
      simpa [Addr.add] using this
    have ho : w1.os = w.os ∧ w1.tape = w.tape ∧ w1.output = w.output ∧ w.heap.size ≤ w1.heap.size := ⟨hgrow.os, hgrow.tape, hgrow.output, by have := hgrow.size; simp at this; omega⟩
    clear hgrow hown hat hi hz0 hz1 hz2 hc hf
    have HO : Hid (w1.os = w.os ∧ w1.tape = w.tape ∧ w1.output = w.output ∧ w.heap.size ≤ w1.heap.size) := ho
    have OW : Hid (∀ b, b < w.heap.size → w1.heap[b]? = w.heap[b]?) := oldw
    clear ho oldw old
    have HG : Hid (g = w.heap.size + 1 + 1) := hg
    clear hg
    have hH : w.heap.size < w1.heap.size := by have := HG.out; omega
    go_wp2
    refine bodyPost_ret (v := .agg #[.int .u64 0, .int .u32 0, .int .u8 0]) ?_ rfl ⟨rfl, g, cap, ?_, ?_, by have := HG.out; omega, ?_⟩
    · simp [results, Yba.results4, go_sem, r0, r1, r2]
    · rw [World.cell?_setCell_far _ _ _ _ (fun e => hne e.symm), World.cell?_setCell_far _ _ _ _ (fun e => hne e.symm), World.cell?_setCell_far _ _ _ _ (fun e => hne e.symm)]
      exact World.cell?_setCell_same w1 _ _ c0
    · have e := HG.out
      rw [World.cell?_setCell_far _ _ _ _ (by simp; omega), World.cell?_setCell_far _ _ _ _ (by simp; omega), World.cell?_setCell_far _ _ _ _ (by simp; omega), World.cell?_setCell_far _ _ _ _ (by simp; omega)]
      exact hgc
    · refine ⟨HO.out.1, HO.out.2.1, HO.out.2.2.1, ?_, fun b hb hn => ?_⟩
      · have := HO.out.2.2.2; simp; omega
      · have hb' : b ≠ lb := fun e => hn (by rw [e])
        rw [heap_setCell_other _ _ _ _ (by simp; omega), heap_setCell_other _ _ _ _ (by simp; omega), heap_setCell_other _ _ _ _ (by simp; omega), heap_setCell_other _ _ _ _ hb']
        exact OW.out b hb
end Go.Proofs.Ybulkzgw

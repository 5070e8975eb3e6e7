/-
  LawS1270BSeeds itself, out of the contracts.
-/
import Derived.Test.YbulkzgwKey
namespace Go.Proofs.Ybulkzgw
open Go.RowKit
set_option linter.unusedVariables false

set_option maxRecDepth 100000 in
set_option maxHeartbeats 400000 in
theorem law_long (me size smp : Int) (a : Option Addr) (len cap : Nat) (probe : Int) (w : World) (hl : 1024 < len) (hm : len ≤ maxLen) :
    Calls Yba.prog 3 #[.int .u32 me, .int .i64 size, .int .u16 smp, .slice a len cap, .int .u32 probe] w fun e w' => e = .returned (.bool true) ∧ Below w.heap.size w w' := by
  unfold maxLen at hm
  go_enter Yba.func3, Yba.ntmps3
  go_wp2
  go_ret
  exact ⟨rfl, Below.refl _ _⟩

theorem mod_nat (smp : Int) (h0 : 0 ≤ smp) : ∃ m : Nat, smp % 300 = (m : Int) ∧ m < 300 := by
  refine ⟨(smp % 300).toNat, ?_, ?_⟩ <;> omega

theorem eql_func (fn : Fn) (f c : Array Value) (w : World) : (binOp .eql 33 (.func fn f c) .nilFunc).run Yba.prog w = .ok (.bool false) w := by kernel_rfl

theorem ValsAt.below {w w' : World} {a : Option Addr} {len B : Nat} {zs : List Int} (h : ValsAt w a len zs) (hva : ∀ b off, 0 < len → a = some ⟨b, off, none⟩ → b < B) (hb : Below B w w') : ValsAt w' a len zs := by
  intro k hk
  obtain ⟨b, off, e, hc⟩ := h k hk
  exact ⟨b, off, e, (hb.cell (hva b off (by omega) e)).trans hc⟩

set_option maxRecDepth 100000 in
set_option maxHeartbeats 2000000 in
theorem law_short (me size smp : Int) (a : Option Addr) (len cap : Nat) (zs : List Int) (probe : Int) (w : World) (hl : len ≤ 1024) (h0 : 0 ≤ smp) (h1 : smp ≤ 65535)
    (hv : ValsAt w a len zs) (hva : ∀ b off, 0 < len → a = some ⟨b, off, none⟩ → b < w.heap.size) :
    Calls Yba.prog 3 #[.int .u32 me, .int .i64 size, .int .u16 smp, .slice a len cap, .int .u32 probe] w fun e w' => e = .returned (.bool true) ∧ Below w.heap.size w w' := by
  have hmf : ∀ (fn : Fn) (first cap : Array Value) (w : World), (Instr.makeFunc fn first cap).run Yba.prog w = .ok (.func fn first cap) w := fun _ _ _ _ => rfl
  have hef := eql_func
  have hdl : decide (1024 < (len : Int)) = false := by simp; omega
  go_enter Yba.func3, Yba.ntmps3
  go_wp2_with fail
  obtain ⟨m, hm, hm3⟩ := mod_nat smp h0
  rw [hm]
  clear hm h0 h1
  obtain ⟨W2, hW2⟩ : ∃ W2 : World, W2 = ((w.alloc (.cells #[.slice a len cap, .int .i64 0] 27)).alloc (.cells #[.slice none 0 0] 28)) := ⟨_, rfl⟩
  rw [← hW2]
  have hsz : W2.heap.size = w.heap.size + 1 + 1 := by rw [hW2]; simp
  have hb2 : Below w.heap.size w W2 := by rw [hW2]; exact ((Below.refl _ _).alloc (Nat.le_refl _) _).alloc (by simp) _
  have hlog : W2.heap[w.heap.size + 1]? = some (.cells #[.slice none 0 0] 28 (0, 0)) := by
    rw [hW2]; have := heap_alloc_new (w.alloc (.cells #[.slice a len cap, .int .i64 0] 27)) (.cells #[.slice none 0 0] 28); simpa using this
  have hsrcb : W2.heap[w.heap.size]? = some (.cells #[.slice a len cap, .int .i64 0] 27 (0, 0)) := by
    rw [hW2, Below.heap_alloc _ _ _ (by simp), heap_alloc_new]
  have hsrc : SrcAt W2 w.heap.size a len cap 0 := ⟨cell_of_heap hsrcb 0, cell_of_heap hsrcb 1, by simp [World.frozen?, hsrcb]⟩
  clear hW2 hsrcb
  have hv2 := hv.below hva hb2
  refine (new_any me size m w.heap.size (w.heap.size + 1) a len cap zs W2 hm3 hl hv2 (by omega) hva hsrc).mono ?_
  rintro e w3 ⟨rb, sb, nb, rfl, hN, hS⟩
  have n0 : w3.cell? ⟨nb, 0, none⟩ = some (.int .u32 me) := cell_of_heap hN.node 0
  have n1 : w3.cell? ⟨nb, 1, none⟩ = some (.func (.func 4) #[] #[.pointer (some ⟨w.heap.size + 1, 0, none⟩)]) := cell_of_heap hN.node 1
  have n2 : w3.cell? ⟨nb, 2, none⟩ = some (.pointer (some ⟨rb, 0, none⟩)) := cell_of_heap hN.node 2
  have n3 : w3.cell? ⟨nb, 3, none⟩ = some (.int .i64 size) := cell_of_heap hN.node 3
  have n4 : w3.cell? ⟨nb, 4, none⟩ = some (.slice none 0 0) := cell_of_heap hN.node 4
  have n5 : w3.cell? ⟨nb, 5, none⟩ = some (.slice (some ⟨sb, 0, none⟩) m m) := cell_of_heap hN.node 5
  have n6 : w3.cell? ⟨nb, 6, none⟩ = some (.int .i64 0) := cell_of_heap hN.node 6
  have n7 : w3.cell? ⟨nb, 7, none⟩ = some (.slice none 0 0) := cell_of_heap hN.node 7
  have n8 : w3.cell? ⟨nb, 8, none⟩ = some (.slice none 0 0) := cell_of_heap hN.node 8
  have s1 := hS.c1
  have hv3 : ValsAt w3 a len zs := hv2.grown hva (by omega) hN.grown
  have hrow := hN.slots
  have hnb3 : nb < w3.heap.size := World.block_lt_of_cell? _ _ n0
  have hsb3 : sb < w3.heap.size := hrow.lt
  have hw3 : w.heap.size + 1 + 1 ≤ w3.heap.size := by have := hN.grown.size; omega
  clear hv2 hsrc hv
  have HB2 : Hid (Below w.heap.size w W2) := hb2
  clear hb2
  go_wp2_with fail
  go_loopw [16] (fun i wr => ∃ k : Nat, k ≤ m ∧ i = .int .i64 k ∧ Below w3.heap.size w3 wr) (fun i _ => m - (intOf i).toNat)
  case atStart => exact ⟨0, Nat.zero_le _, rfl, Below.refl _ _⟩
  case round =>
    obtain ⟨k, hk, rfl, hB⟩ := hrel
    by_cases hlt : k < m
    · have r5 : wr.cell? ⟨nb, 5, none⟩ = some (.slice (some ⟨sb, 0, none⟩) m m) := (hB.cell (p := ⟨nb, 5, none⟩) hnb3).trans n5
      have hwr := hB.size
      have q : ∀ j, j < m * 5 → wr.cell? ⟨sb, j, none⟩ = some (slotF (fun i => if i < m then drawn len zs i else 0) j) := fun j hj => (hB.cell (p := ⟨sb, j, none⟩) hsb3).trans (hrow.cell hj)
      have q0 : wr.cell? ⟨sb, k * 5, none⟩ = some (.int .u64 (drawn len zs k)) := (q _ (by omega)).trans (by rw [slotF0, if_pos hlt])
      have q1 : wr.cell? ⟨sb, k * 5 + 1, none⟩ = some (.int .u64 0) := (q _ (by omega)).trans (by rw [slotF1])
      have q2 : wr.cell? ⟨sb, k * 5 + 2, none⟩ = some (.int .u32 0) := (q _ (by omega)).trans (by rw [slotF2])
      have q3 : wr.cell? ⟨sb, k * 5 + 3, none⟩ = some (.int .u32 0) := (q _ (by omega)).trans (by rw [slotF3])
      have q4 : wr.cell? ⟨sb, k * 5 + 4, none⟩ = some (.bool false) := (q _ (by omega)).trans (by rw [slotF4])
      have hsbr : sb < wr.heap.size := by omega
      have hnbr : nb < wr.heap.size := by omega
      clear q n0 n1 n2 n3 n4 n5 n6 n7 n8 s1 hrow hN hS hlog hmf hef
      by_cases hkl : k < len
      · obtain ⟨b, off, ea, hc⟩ := hv3 k hkl
        have hbw := hva b off (by omega) ea
        subst ea
        have hcr : wr.cell? ⟨b, off + k, none⟩ = some (.int .u64 (drawn len zs k)) := ((hB.cell (p := ⟨b, off + k, none⟩) (by show b < _; omega)).trans hc).trans (by simp [drawn, hkl])
        generalize drawn len zs k = z at q0 hcr
        have hbr : b < wr.heap.size := by omega
        clear hv3 hc hva
        go_wp2
        go_end0
        go_wp2
        go_quiet (fail)
        go_wp2
        exact ⟨⟨k + 1, by omega, by go_num, below_drewN (hB.alloc hwr _) _⟩, by simp [intOf]; omega⟩
      · have hz : drawn len zs k = 0 := by simp [drawn, hkl]
        rw [hz] at q0
        clear hv3 hva hz
        go_wp2
        go_end0
        go_wp2
        go_quiet (fail)
        go_wp2
        exact ⟨⟨k + 1, by omega, by go_num, below_drewN (hB.alloc hwr _) _⟩, by simp [intOf]; omega⟩
    · have hkm : k = m := by omega
      subst hkm
      have hlb : wr.cell? ⟨w.heap.size + 1, 0, none⟩ = some (.slice none 0 0) := by
        rw [hB.cell (p := ⟨w.heap.size + 1, 0, none⟩) (by show w.heap.size + 1 < _; omega)]
        rw [World.cell?_of_block (a := ⟨w.heap.size + 1, 0, none⟩) (hN.grown.block _ (by show w.heap.size + 1 < _; omega) (by simp))]
        exact cell_of_heap hlog 0
      have hlf : wr.frozen? ⟨w.heap.size + 1, 0, none⟩ = false := by
        rw [hB.frozen (p := ⟨w.heap.size + 1, 0, none⟩) (by show w.heap.size + 1 < _; omega)]
        rw [World.frozen?_of_block (a := ⟨w.heap.size + 1, 0, none⟩) (hN.grown.block _ (by show w.heap.size + 1 < _; omega) (by simp))]
        simp [World.frozen?, hlog]
      have e1 : wr.cell? ⟨nb, 1, none⟩ = some (.func (.func 4) #[] #[.pointer (some ⟨w.heap.size + 1, 0, none⟩)]) := (hB.cell (p := ⟨nb, 1, none⟩) hnb3).trans n1
      have e2 : wr.cell? ⟨nb, 2, none⟩ = some (.pointer (some ⟨rb, 0, none⟩)) := (hB.cell (p := ⟨nb, 2, none⟩) hnb3).trans n2
      have hwr := hB.size
      have hrb3 : rb < w3.heap.size := (Array.getElem?_eq_some_iff.1 hN.rand).1
      have e3 : wr.cell? ⟨rb, 0, none⟩ = some (.iface 25 (.pointer (some ⟨w.heap.size, 0, none⟩))) := (hB.cell (p := ⟨rb, 0, none⟩) hrb3).trans (cell_of_heap hN.rand 0)
      have hSr : SrcAt wr w.heap.size a len cap k := hS.of_block (hB.block _ (by omega))
      have hvr : ValsAt wr a len zs := hv3.below (fun b off h0 e => Nat.lt_of_lt_of_le (hva b off h0 e) (by omega)) hB
      have hbw : Below w.heap.size w wr := HB2.out.trans (Below.trans ⟨hN.grown.os, hN.grown.tape, hN.grown.output, hN.grown.size, fun b hb => hN.grown.block b (by omega) (by simp; omega)⟩ (hB.mono (by omega)))
      have hnl : nb ≠ w.heap.size + 1 := by have := hN.nnew; omega
      have hrl : rb ≠ w.heap.size + 1 := by have := hN.rnew; omega
      clear n0 n1 n2 n3 n4 n5 n6 n7 n8 s1 hrow hN hS hlog hB hv3 HB2
      go_wp2_with fail
      refine (key_any probe (w.heap.size + 1) _ (by omega) hlb hlf).mono ?_
      rintro e w4 ⟨rfl, g, cap4, g1, g2, g3, g4⟩
      have j2 : w4.cell? ⟨nb, 2, none⟩ = some (.pointer (some ⟨rb, 0, none⟩)) := g4.cell e2 (by simp; exact hnl)
      have j3 : w4.cell? ⟨rb, 0, none⟩ = some (.iface 25 (.pointer (some ⟨w.heap.size, 0, none⟩))) := g4.cell e3 (by simp; exact hrl)
      have hS4 : SrcAt w4 w.heap.size a len cap k := hSr.of_block (g4.block _ (by omega) (by simp))
      have hv4 : ValsAt w4 a len zs := fun i hi => by
        obtain ⟨b, off, e, hc⟩ := hvr i hi
        have := hva b off (by omega) e
        exact ⟨b, off, e, g4.cell hc (by simp; omega)⟩
      have hb4 : Below w.heap.size w w4 := hbw.grown g4 (by omega) (by simp)
      have hs4 : w.heap.size < w4.heap.size := by have := hb4.size; have := g4.size; omega
      clear hlb hlf e1 e2 e3 hSr hvr hbw hwr g4 hef hmf
      have c1 := hS4.c1
      by_cases hkl : k < len
      · obtain ⟨b, off, ea, hc⟩ := hv4 k hkl
        have hcr : w4.cell? ⟨b, off + k, none⟩ = some (.int .u64 (drawn len zs k)) := hc.trans (by simp [drawn, hkl])
        clear hc
        subst ea
        go_wp2_with fail
        refine (rand_any rb w.heap.size (some ⟨b, off, none⟩) len cap k zs w4 hl (by omega) hv4 j3 hS4.c0 hS4.c1 hS4.f1).mono ?_
        rintro e w5 ⟨rfl, n, rfl⟩
        clear hv4 hva
        go_wp2
        go_ret
        exact ⟨rfl, below_drewN (hb4.setCell (Nat.le_refl _) _) _⟩
      · have hz : drawn len zs k = 0 := by simp [drawn, hkl]
        go_wp2_with fail
        refine (rand_any rb w.heap.size a len cap k zs w4 hl (by omega) hv4 j3 hS4.c0 hS4.c1 hS4.f1).mono ?_
        rw [hz]
        rintro e w5 ⟨rfl, n, rfl⟩
        clear hv4 hva hz
        go_wp2
        go_ret
        exact ⟨rfl, below_drewN (hb4.setCell (Nat.le_refl _) _) _⟩
end Go.Proofs.Ybulkzgw

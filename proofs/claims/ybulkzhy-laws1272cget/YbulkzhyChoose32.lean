/-
  slices.choosePivotOrdered[int32] computes 'Sort.choosePivot'.
-/
import Derived.Test.YbulkzhyPivot32
import Derived.Deep.DeepCutAuto
namespace Go.Proofs.Ybulkzhy
open Go.RowKit Go.Sort
set_option linter.unusedVariables false

theorem At.alloc {w wr : World} {blk off : Nat} {d : Array Int} (h : At E32 w blk off d wr) (o : Obj) : At E32 w blk off d (wr.alloc o) := by
  obtain ⟨n, os, rfl⟩ := h
  rw [alloc_eq_grow, grow_grow]
  exact ⟨n, _, rfl⟩

theorem Cnt.start {w : World} {blk off : Nat} {d : Array Int} (h : Holds E32 w blk off d) : Cnt w blk off d w.heap.size 0 (w.alloc (.cells #[.int .i64 0] 3)) :=
  ⟨At.alloc (At.refl h) _, by simp, by simp⟩

set_option maxHeartbeats 2000000 in
set_option maxRecDepth 1000000 in
theorem Yba.choose32 (blk off cap N a b : Nat) (d : Array Int) (w : World) (hH : Holds E32 w blk off d) (hN : d.size = N) (hblk : blk < w.heap.size) (hab : a < b) (hb : b ≤ N) (hsz : N < 4611686018427387904) :
    Calls Yba.prog 25 #[.slice (some ⟨blk, off, none⟩) N cap, .int .i64 a, .int .i64 b] w fun e w' =>
      e = .returned (.tuple #[.int .i64 (choosePivot ltInt d a b).1, .int .i64 (hintCode (choosePivot ltInt d a b).2)]) ∧ At E32 w blk off d w' := by
  obtain ⟨P, S, hPS⟩ : ∃ P S, rawPivot ltInt d a b = (P, S) := ⟨(rawPivot ltInt d a b).1, (rawPivot ltInt d a b).2, rfl⟩
  have HPS : Hid (rawPivot ltInt d a b = (P, S)) := hPS
  obtain ⟨hc, hhc⟩ : ∃ hc : Int, hc = hintCode (hintOf S) := ⟨_, rfl⟩
  rw [choosePivot_eq, hPS]
  simp only []
  rw [← hhc]
  have HHC : Hid (hc = hintCode (hintOf S)) := hhc
  clear hPS hhc
  have HG : Hid (Gnd w blk off N d w.heap.size) := ⟨hH, hN, hblk, Nat.le_refl _, hsz⟩
  have HC : Hid (Cnt w blk off d w.heap.size 0 (w.alloc (.cells #[.int .i64 0] 3))) := Cnt.start hH
  clear hH
  obtain ⟨g, hg⟩ : ∃ g, g = w.heap.size := ⟨_, rfl⟩
  have hgz : w.heap.size = g := hg.symm
  obtain ⟨L, hL⟩ : ∃ L, L = b - a := ⟨_, rfl⟩
  have hLz : (b : Int) - (a : Int) = (L : Int) := by omega
  obtain ⟨I, hI⟩ : ∃ I : Nat, I = a + L / 4 * 1 := ⟨_, rfl⟩
  obtain ⟨J, hJ⟩ : ∃ J : Nat, J = a + L / 4 * 2 := ⟨_, rfl⟩
  obtain ⟨K, hK⟩ : ∃ K : Nat, K = a + L / 4 * 3 := ⟨_, rfl⟩
  have eI : ((a : Int) + (L : Int) / 4) = (I : Int) := by omega
  have eJ : ((a : Int) + (L : Int) / 4 * 2) = (J : Int) := by omega
  have eK : ((a : Int) + (L : Int) / 4 * 3) = (K : Int) := by omega
  have bI : I + 1 < N ∨ L < 8 := by omega
  have bJ : J + 1 < N ∨ L < 8 := by omega
  have bK : K + 1 < N ∨ L < 8 := by omega
  have lI : 1 ≤ I ∨ L < 8 := by omega
  have lJ : 1 ≤ J ∨ L < 8 := by omega
  have lK : 1 ≤ K ∨ L < 8 := by omega
  have HR : Hid (L = b - a ∧ I = a + L / 4 * 1 ∧ J = a + L / 4 * 2 ∧ K = a + L / 4 * 3) := ⟨hL, hI, hJ, hK⟩
  rw [← hg] at HG HC
  clear hg hL hI hJ hK
  go_enter Yba.func25, Yba.ntmps25
  go_upto_if 32 with fail
  generalize w.alloc (.cells #[.int .i64 0] 3) = W0 at HC ⊢
  go_cut [10, 11, 12] from 13 (fun s10 s11 s12 wc => s11 = .int .i64 P ∧ Cnt w blk off d g S wc)
  case first =>
    by_cases h8 : L ≥ 8
    · have h8z : (8 : Int) ≤ (L : Int) := by omega
      by_cases h50 : L ≥ 50
      · have h50z : (50 : Int) ≤ (L : Int) := by omega
        obtain ⟨i1, s1, h1⟩ : ∃ x y, medianAdjacent ltInt d I 0 = (x, y) := ⟨(medianAdjacent ltInt d I 0).1, (medianAdjacent ltInt d I 0).2, rfl⟩
        obtain ⟨j1, s2, h2⟩ : ∃ x y, medianAdjacent ltInt d J s1 = (x, y) := ⟨(medianAdjacent ltInt d J s1).1, (medianAdjacent ltInt d J s1).2, rfl⟩
        obtain ⟨k1, s3, h3⟩ : ∃ x y, medianAdjacent ltInt d K s2 = (x, y) := ⟨(medianAdjacent ltInt d K s2).1, (medianAdjacent ltInt d K s2).2, rfl⟩
        obtain ⟨p, s, h4⟩ : ∃ x y, median ltInt d i1 j1 k1 s3 = (x, y) := ⟨(median ltInt d i1 j1 k1 s3).1, (median ltInt d i1 j1 k1 s3).2, rfl⟩
        have hraw : Hid (rawPivot ltInt d a b = (p, s)) := by
          show rawPivot ltInt d a b = (p, s)
          obtain ⟨r1, r2, r3, r4⟩ := HR.out
          unfold rawPivot
          rw [← r1, if_pos h8, if_pos h50, ← r2, ← r3, ← r4, h1, h2, h3, h4]
        have m1 := medianAdjacent_mem ltInt d I 0
        have n1 := medianAdjacent_count ltInt d I 0
        rw [h1] at m1 n1
        have m2 := medianAdjacent_mem ltInt d J s1
        have n2 := medianAdjacent_count ltInt d J s1
        rw [h2] at m2 n2
        have m3 := medianAdjacent_mem ltInt d K s2
        have n3 := medianAdjacent_count ltInt d K s2
        rw [h3] at m3 n3
        simp only [] at m1 m2 m3 n1 n2 n3
        have C1 := Yba.medAdj32 w blk off cap N d g HG.out I 0 W0 HC.out (by omega) (by omega) (by omega)
        rw [h1] at C1
        have C2 : ∀ W, Cnt w blk off d g s1 W → Calls Yba.prog 44 #[.slice (some ⟨blk, off, none⟩) N cap, .int .i64 J, .pointer (some ⟨g, 0, none⟩)] W fun e w' => e = .returned (.int .i64 j1) ∧ Cnt w blk off d g s2 w' := fun W h => by
          have := Yba.medAdj32 w blk off cap N d g HG.out J s1 W h (by omega) (by omega) (by omega)
          rw [h2] at this; exact this
        have C3 : ∀ W, Cnt w blk off d g s2 W → Calls Yba.prog 44 #[.slice (some ⟨blk, off, none⟩) N cap, .int .i64 K, .pointer (some ⟨g, 0, none⟩)] W fun e w' => e = .returned (.int .i64 k1) ∧ Cnt w blk off d g s3 w' := fun W h => by
          have := Yba.medAdj32 w blk off cap N d g HG.out K s2 W h (by omega) (by omega) (by omega)
          rw [h3] at this; exact this
        have C4 : ∀ W, Cnt w blk off d g s3 W → Calls Yba.prog 45 #[.slice (some ⟨blk, off, none⟩) N cap, .int .i64 i1, .int .i64 j1, .int .i64 k1, .pointer (some ⟨g, 0, none⟩)] W fun e w' => e = .returned (.int .i64 p) ∧ Cnt w blk off d g s w' := fun W h => by
          have := Yba.median32 w blk off cap N d g HG.out i1 j1 k1 s3 W h (by omega) (by omega) (by omega) (by omega)
          rw [h4] at this; exact this
        clear h1 h2 h3 h4 m1 m2 m3 n1 n2 n3
        go_wp2_with (first
          | (go_at_call_has 44 (Value.int .i64 (I : Int)); refine C1.mono ?_; rintro e w1 ⟨rfl, hw1⟩)
          | (go_at_call_has 44 (Value.int .i64 (J : Int)); refine (C2 _ hw1).mono ?_; rintro e w2 ⟨rfl, hw2⟩)
          | (go_at_call_has 44 (Value.int .i64 (K : Int)); refine (C3 _ hw2).mono ?_; rintro e w3 ⟨rfl, hw3⟩)
          | (go_at_call 45; refine (C4 _ hw3).mono ?_; rintro e w4 ⟨rfl, hw4⟩))
        go_meet
        case rel =>
          have e := HPS.out.symm.trans hraw.out
          injection e with e1 e2
          exact ⟨by rw [e1], by rw [e2]; exact hw4⟩
      · have h50z : ¬ ((50 : Int) ≤ (L : Int)) := by omega
        obtain ⟨p, s, h4⟩ : ∃ x y, median ltInt d I J K 0 = (x, y) := ⟨(median ltInt d I J K 0).1, (median ltInt d I J K 0).2, rfl⟩
        have hraw : Hid (rawPivot ltInt d a b = (p, s)) := by
          show rawPivot ltInt d a b = (p, s)
          obtain ⟨r1, r2, r3, r4⟩ := HR.out
          unfold rawPivot
          rw [← r1, if_pos h8, if_neg h50, ← r2, ← r3, ← r4, h4]
        have C4 := Yba.median32 w blk off cap N d g HG.out I J K 0 W0 HC.out (by omega) (by omega) (by omega) (by omega)
        rw [h4] at C4
        clear h4
        go_wp2_with (go_at_call 45; refine C4.mono ?_; rintro e w4 ⟨rfl, hw4⟩)
        go_meet
        case rel =>
          have e := HPS.out.symm.trans hraw.out
          injection e with e1 e2
          exact ⟨by rw [e1], by rw [e2]; exact hw4⟩
    · have h8z : ¬ ((8 : Int) ≤ (L : Int)) := by omega
      have hraw : Hid (rawPivot ltInt d a b = (J, 0)) := by
        show rawPivot ltInt d a b = (J, 0)
        obtain ⟨r1, r2, r3, r4⟩ := HR.out
        unfold rawPivot
        rw [← r1, if_neg h8, ← r3]
      go_wp2_with fail
      go_meet
      case rel =>
        have e := HPS.out.symm.trans hraw.out
        injection e with e1 e2
        exact ⟨by rw [e1], by rw [e2]; exact HC.out⟩
  case rest =>
    obtain ⟨rfl, hcn⟩ := hcut
    have hcell := hcn.cell
    have HCN : Hid (At E32 w blk off d wc) := hcn.row
    clear hcn HC HG
    by_cases h0 : S = 0
    · have h0z : ((S : Int) == 0) = true := by simp [h0]
      have HF : Hid (hc = 1) := by show hc = 1; rw [HHC.out, h0]; rfl
      clear h0
      go_wp2_with fail
      go_ret2
      exact ⟨by rw [HF.out]; rfl, HCN.out⟩
    · have h0z : ((S : Int) == 0) = false := by simp; omega
      by_cases h12 : S = 12
      · have h12z : ((S : Int) == 12) = true := by simp [h12]
        have HF : Hid (hc = 2) := by show hc = 2; rw [HHC.out, h12]; rfl
        clear h12
        go_wp2_with fail
        go_ret2
        exact ⟨by rw [HF.out]; rfl, HCN.out⟩
      · have h12z : ((S : Int) == 12) = false := by simp; omega
        have HF : Hid (hc = 0) := by show hc = 0; rw [HHC.out]; unfold hintOf; rw [if_neg h0, if_neg h12]; rfl
        go_wp2_with fail
        go_ret2
        exact ⟨by rw [HF.out]; rfl, HCN.out⟩
end Go.Proofs.Ybulkzhy

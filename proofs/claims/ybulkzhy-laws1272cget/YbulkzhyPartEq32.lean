/-
  slices.partitionEqualOrdered[int32] computes 'Sort.partitionEqual'.
-/
import Derived.Test.YbulkzhyRow32
import Derived.Sort.WalkC
import Derived.Deep.DeepCutAuto
namespace Go.Proofs.Ybulkzhy
open Go.RowKit Go.Sort
set_option linter.unusedVariables false

set_option maxHeartbeats 3000000 in
set_option maxRecDepth 1000000 in
theorem Yba.partEq32 (blk off cap N a b pv : Nat) (d : Array Int) (w : World) (hH : Holds E32 w blk off d) (hN : d.size = N) (hblk : blk < w.heap.size) (hap : a ≤ pv) (hpb : pv < b) (hb : b ≤ N) (hsz : N < 4611686018427387904) :
    Calls Yba.prog 29 #[.slice (some ⟨blk, off, none⟩) N cap, .int .i64 a, .int .i64 b, .int .i64 pv] w fun e w' =>
      e = .returned (.int .i64 (partitionEqual ltInt d a b pv).1) ∧ At E32 w blk off (partitionEqual ltInt d a b pv).2 w' := by
  have HH : Hid (Holds E32 w blk off d) := hH
  obtain ⟨G0, hG0⟩ : ∃ G : Nat → Int, ∀ t, G t = d[t]! := ⟨fun t => d[t]!, fun _ => rfl⟩
  obtain ⟨hcw, hfw, -, -⟩ := At.cells (At.refl hH) hH hN hN hblk
  simp only [← hG0] at hcw
  have HG0 : Hid (∀ t, G0 t = d[t]!) := hG0
  clear hH hG0
  obtain ⟨v3, hy3⟩ := cell?_setCell_some (w := w) (p := ⟨blk, off + a, none⟩) (x := .int .i32 (G0 pv)) (q := ⟨blk, off + pv, none⟩) (hcw pv (by omega))
  go_enter Yba.func29, Yba.ntmps29
  go_wp2
  go_region
  have hat3 := At.swap1 (At.refl HH.out) hblk a pv (by omega) (by omega) (HG0.out pv) (HG0.out a)
  generalize ((w.setCell ⟨blk, off + a, none⟩ (.int .i32 (G0 pv))).setCell ⟨blk, off + pv, none⟩ (.int .i32 (G0 a))).drew = W0 at hat3 ⊢
  have AT0 : Hid (At E32 w blk off (swp d a pv) W0) := hat3
  clear hat3 hy3 hcw hfw HG0
  go_wp2
  go_loopg [9, 10] (b - a) (fun k s9 s10 wr => ∃ (i j : Nat) (dk : Array Int), s9 = .int .i64 i ∧ s10 = .int .i64 j ∧ a < i ∧ i ≤ j + 1 ∧ j < b ∧ j + 1 - i ≤ k ∧ dk.size = N ∧ At E32 w blk off dk wr ∧
      partEqLoop ltInt a i j dk = partitionEqual ltInt d a b pv)
  case atStart => exact ⟨a + 1, b - 1, swp d a pv, by go_num, by congr 1; omega, by omega, by omega, by omega, by omega, by rw [size_swp]; exact hN, AT0.out, rfl⟩
  case round =>
    obtain ⟨i, j, dk, rfl, rfl, hai, hij, hjb, hk, hds, hat, heq⟩ := hrel
    obtain ⟨G, hG⟩ : ∃ G : Nat → Int, ∀ t, G t = dk[t]! := ⟨fun t => dk[t]!, fun _ => rfl⟩
    have HG : Hid (∀ t, G t = dk[t]!) := hG
    have AT : Hid (At E32 w blk off dk wr) := hat
    have HE : Hid (partEqLoop ltInt a i j dk = partitionEqual ltInt d a b pv) := heq
    clear hG hat heq AT0
    go_wp2
    go_loopg [9] (j + 1 - i) (fun k s9 w1 => ∃ i' : Nat, s9 = .int .i64 i' ∧ i ≤ i' ∧ i' ≤ j + 1 ∧ j + 1 - i' ≤ k ∧ Hid (At E32 w blk off dk w1) ∧
        Hid (scanUp (fun x => !ltInt dk[a]! x) dk j i' = scanUp (fun x => !ltInt dk[a]! x) dk j i))
    case atStart => exact ⟨i, rfl, Nat.le_refl _, hij, Nat.le_refl _, AT, rfl⟩
    case round =>
      obtain ⟨i', rfl, hii, hij', hk1, AT1, HS1⟩ := hrel
      obtain ⟨hcw, hfw, -, -⟩ := At.cells AT1.out HH.out hN hds hblk
      simp only [← HG.out] at hcw
      go_upto_region 3 with fail
      go_cut [43] from 29 to 45 (fun s43 wc => s43 = .bool (decide (i' ≤ j) && !ltInt (G a) (G i')) ∧ Hid (At E32 w blk off dk wc))
      case first =>
        by_cases hle : i' ≤ j
        · have hlez : (i' : Int) ≤ (j : Int) := by omega
          go_big_quiet (first | (go_at_call 28; refine Calls.quiet_of_same (Yba.less32 _ _ _)))
          go_wp2_with fail
          go_meet
          case rel => exact ⟨by simp [hle], At.drawn AT1.out nq⟩
        · have hlez : decide ((i' : Int) ≤ (j : Int)) = false := decide_eq_false (by omega)
          go_big_quiet (first | (go_at_call 28; refine Calls.quiet_of_same (Yba.less32 _ _ _)))
          go_wp2_with fail
          go_meet
          case rel => exact ⟨by simp [hle], At.drawn AT1.out nq⟩
      case rest =>
        obtain ⟨rfl, AT2⟩ := hcut
        clear hcw hfw AT1
        cases hB : (decide (i' ≤ j) && !ltInt (G a) (G i'))
        · have HI2 : Hid (i' = scanUp (fun x => !ltInt dk[a]! x) dk j i) := (scanUp_end (fun x => !ltInt dk[a]! x) dk j i' (by
            by_cases hle : i' ≤ j
            · exact Or.inr (by rw [← HG.out, ← HG.out]; simpa [hle] using hB)
            · exact Or.inl hle)).symm.trans HS1.out
          clear HS1
          go_wp2_with fail
          go_loopg [10] (j + 1) (fun k s10 w1 => ∃ j' : Nat, s10 = .int .i64 j' ∧ j' ≤ j ∧ i' ≤ j' + 1 ∧ j' + 1 ≤ k ∧ Hid (At E32 w blk off dk w1) ∧
              Hid (scanDown (fun x => ltInt dk[a]! x) dk i' j' = scanDown (fun x => ltInt dk[a]! x) dk i' j))
          case atStart => exact ⟨j, rfl, Nat.le_refl _, hij', Nat.le_refl _, AT2, rfl⟩
          case round =>
            obtain ⟨j', rfl, hjj, hij2, hk2, AT3, HS3⟩ := hrel
            clear AT2
            obtain ⟨hcw, hfw, -, -⟩ := At.cells AT3.out HH.out hN hds hblk
            simp only [← HG.out] at hcw
            go_upto_region 5 with fail
            go_cut [59] from 46 to 61 (fun s59 wc => s59 = .bool (decide (i' ≤ j') && ltInt (G a) (G j')) ∧ Hid (At E32 w blk off dk wc))
            case first =>
              by_cases hle : i' ≤ j'
              · have hlez : (i' : Int) ≤ (j' : Int) := by omega
                go_big_quiet (first | (go_at_call 28; refine Calls.quiet_of_same (Yba.less32 _ _ _)))
                go_wp2_with fail
                go_meet
                case rel => exact ⟨by simp [hle], At.drawn AT3.out nq⟩
              · have hlez : decide ((i' : Int) ≤ (j' : Int)) = false := decide_eq_false (by omega)
                go_big_quiet (first | (go_at_call 28; refine Calls.quiet_of_same (Yba.less32 _ _ _)))
                go_wp2_with fail
                go_meet
                case rel => exact ⟨by simp [hle], At.drawn AT3.out nq⟩
            case rest =>
              obtain ⟨rfl, AT4⟩ := hcut
              clear hcw hfw AT3 hB
              cases hB : (decide (i' ≤ j') && ltInt (G a) (G j'))
              · have HJ2 : Hid (j' = scanDown (fun x => ltInt dk[a]! x) dk i' j) := (scanDown_end (fun x => ltInt dk[a]! x) dk i' j' (by
                  by_cases hle : i' ≤ j'
                  · exact Or.inr (by rw [← HG.out, ← HG.out]; simpa [hle] using hB)
                  · exact Or.inl hle)).symm.trans HS3.out
                clear HS3
                by_cases hle : i' ≤ j'
                · have hlez : ¬ ((j' : Int) < (i' : Int)) := by omega
                  have hlt : i' < j' := scans_lt ltInt a i j dk (by omega) HI2.out HJ2.out hle
                  obtain ⟨hcw, hfw, -, -⟩ := At.cells AT4.out HH.out hN hds hblk
                  simp only [← HG.out] at hcw
                  go_wp2_with fail
                  go_region
                  go_wp2
                  go_roundg (j' - 1 + 1 - (i' + 1))
                  case measure => omega
                  case rel => exact ⟨i' + 1, j' - 1, swp dk i' j', by go_num, by congr 1; omega, by omega, by omega, by omega, Nat.le_refl _, by rw [size_swp]; exact hds, At.swap1 AT4.out hblk i' j' (by omega) (by omega) (HG.out _) (HG.out _),
                      by rw [← HE.out]; exact (partEq_go ltInt a i j dk HI2.out HJ2.out (by omega)).symm⟩
                · have hlez : (j' : Int) < (i' : Int) := by omega
                  have HF : Hid ((partitionEqual ltInt d a b pv) = (i', dk)) := by rw [← HE.out]; exact partEq_break ltInt a i j dk HI2.out HJ2.out (by omega)
                  go_wp2
                  go_ret
                  exact ⟨by rw [HF.out]; rfl, by rw [HF.out]; exact AT4.out⟩
              · have h2 := Bool.and_eq_true_iff.1 hB
                have hle : i' ≤ j' := by simpa using h2.1
                have HS4 : Hid (scanDown (fun x => ltInt dk[a]! x) dk i' (j' - 1) = scanDown (fun x => ltInt dk[a]! x) dk i' j) := (scanDown_go (fun x => ltInt dk[a]! x) dk i' j' hle (by omega) (by rw [← HG.out, ← HG.out]; exact h2.2)).symm.trans HS3.out
                clear h2
                go_wp2_with fail
                go_roundg j'
                case measure => omega
                case rel => exact ⟨j' - 1, by congr 1; omega, by omega, by omega, by omega, AT4, HS4⟩
        · have h2 := Bool.and_eq_true_iff.1 hB
          have hle : i' ≤ j := by simpa using h2.1
          have HS2 : Hid (scanUp (fun x => !ltInt dk[a]! x) dk j (i' + 1) = scanUp (fun x => !ltInt dk[a]! x) dk j i) := (scanUp_go (fun x => !ltInt dk[a]! x) dk j i' hle (by rw [← HG.out, ← HG.out]; exact h2.2)).symm.trans HS1.out
          clear h2
          go_wp2_with fail
          go_roundg (j + 1 - (i' + 1))
          case measure => omega
          case rel => exact ⟨i' + 1, by go_num, by omega, by omega, Nat.le_refl _, AT2, HS2⟩
end Go.Proofs.Ybulkzhy

/-
  slices.partialInsertionSortOrdered[int32] computes 'Sort.partialInsertionSort'.
-/
import Derived.Test.YbulkzhyRow32
import Derived.Sort.WalkA6
import Derived.Deep.DeepCutAuto
namespace Go.Proofs.Ybulkzhy
open Go.RowKit Go.Sort
set_option linter.unusedVariables false

set_option maxHeartbeats 6000000 in
set_option maxRecDepth 1000000 in
theorem Yba.pins32 (blk off cap N a b : Nat) (d : Array Int) (w : World) (hH : Holds E32 w blk off d) (hN : d.size = N) (hblk : blk < w.heap.size) (hab : a < b) (hb : b ≤ N) (hsz : N < 4611686018427387904) :
    Calls Yba.prog 27 #[.slice (some ⟨blk, off, none⟩) N cap, .int .i64 a, .int .i64 b] w fun e w' =>
      e = .returned (.bool (partialInsertionSort ltInt d a b).2) ∧ At E32 w blk off (partialInsertionSort ltInt d a b).1 w' := by
  have HH : Hid (Holds E32 w blk off d) := hH
  have HST : Hid (At E32 w blk off d w) := At.refl hH
  clear hH
  go_enter Yba.func27, Yba.ntmps27
  go_wp2
  go_loopg [7, 8] 5 (fun k s7 s8 wr => ∃ (i s : Nat) (dk : Array Int), s7 = .int .i64 i ∧ s8 = .int .i64 s ∧ s ≤ 5 ∧ 5 - s ≤ k ∧ a < i ∧ i ≤ b ∧ dk.size = N ∧ At E32 w blk off dk wr ∧
      partialIns ltInt a b (5 - s) i dk = partialInsertionSort ltInt d a b)
  case atStart => exact ⟨a + 1, 0, d, by go_num, rfl, by omega, by omega, by omega, by omega, hN, HST.out, rfl⟩
  case round =>
    obtain ⟨i, s, dk, rfl, rfl, hs5, hks, hai, hib, hds, hat, heq⟩ := hrel
    obtain ⟨G, hG⟩ : ∃ G : Nat → Int, ∀ t, G t = dk[t]! := ⟨fun t => dk[t]!, fun _ => rfl⟩
    have HG : Hid (∀ t, G t = dk[t]!) := hG
    have AT : Hid (At E32 w blk off dk wr) := hat
    have HE : Hid (partialIns ltInt a b (5 - s) i dk = partialInsertionSort ltInt d a b) := heq
    clear hG hat heq HST
    by_cases hs : s < 5
    · have hsz5 : (s : Int) < 5 := by omega
      go_wp2
      go_loopg [7] (b - i) (fun k s7 w1 => ∃ k' : Nat, s7 = .int .i64 k' ∧ i ≤ k' ∧ k' ≤ b ∧ b - k' ≤ k ∧ Hid (At E32 w blk off dk w1) ∧ Hid (scanSorted ltInt dk b k' = scanSorted ltInt dk b i))
      case atStart => exact ⟨i, rfl, Nat.le_refl _, hib, Nat.le_refl _, AT, rfl⟩
      case round =>
        obtain ⟨i', rfl, hii, hib', hk1, AT1, HS1⟩ := hrel
        obtain ⟨hcw, hfw, -, -⟩ := At.cells AT1.out HH.out hN hds hblk
        simp only [← HG.out] at hcw
        go_upto_region 5 with fail
        go_cut [32] from 17 to 34 (fun st wc => st = .bool (decide (i' < b) && !ltInt (G i') (G (i' - 1))) ∧ Hid (At E32 w blk off dk wc))
        case first =>
          by_cases hle : i' < b
          · have hlez : (i' : Int) < (b : Int) := by omega
            go_big_quiet (first | (go_at_call 28; refine Calls.quiet_of_same (Yba.less32 _ _ _)))
            go_wp2_with fail
            go_meet
            case rel => exact ⟨by simp [hle], At.drawn AT1.out nq⟩
          · have hlez : decide ((i' : Int) < (b : Int)) = false := decide_eq_false (by omega)
            go_big_quiet (first | (go_at_call 28; refine Calls.quiet_of_same (Yba.less32 _ _ _)))
            go_wp2_with fail
            go_meet
            case rel => exact ⟨by simp [hle], At.drawn AT1.out nq⟩
        case rest =>
          obtain ⟨rfl, AT2⟩ := hcut
          clear hcw hfw AT1
          cases hB : (decide (i' < b) && !ltInt (G i') (G (i' - 1)))
          · have HK : Hid (scanSorted ltInt dk b i = i') := HS1.out.symm.trans (scanSorted_stop ltInt dk b i' (by
              by_cases hle : i' < b
              · exact Or.inr (by rw [← HG.out, ← HG.out]; simpa [hle] using hB)
              · exact Or.inl hle))
            clear HS1 hB
            obtain ⟨hcw, hfw, -, -⟩ := At.cells AT2.out HH.out hN hds hblk
            simp only [← HG.out] at hcw
            by_cases hbb : i' = b
            · have HF : Hid (partialInsertionSort ltInt d a b = (dk, true)) := HE.out.symm.trans (pi_true ltInt a b s i dk hs (HK.out.trans hbb))
              have hbz : ((i' : Int) == (b : Int)) = true := by simp [hbb]
              go_wp2_with fail
              go_ret
              exact ⟨by rw [HF.out]; rfl, by rw [HF.out]; exact AT2.out⟩
            · have hbz : ((i' : Int) == (b : Int)) = false := by simp; omega
              by_cases h50 : b - a < 50
              · have h50z : (b : Int) - (a : Int) < 50 := by omega
                have HF : Hid (partialInsertionSort ltInt d a b = (dk, false)) := HE.out.symm.trans (pi_short ltInt a b s i dk hs (by rw [HK.out]; exact hbb) h50)
                go_wp2_with fail
                go_ret
                exact ⟨by rw [HF.out]; rfl, by rw [HF.out]; exact AT2.out⟩
              · have h50z : ¬ ((b : Int) - (a : Int) < 50) := by omega
                have hne : i' - 1 < i' := by omega
                go_wp2_with fail
                go_region
                have AT5 : Hid (At E32 w blk off (swp dk i' (i' - 1)) ((wc.setCell ⟨blk, off + i', none⟩ (.int .i32 (G (i' - 1)))).setCell ⟨blk, off + (i' - 1), none⟩ (.int .i32 (G i'))).drew) := At.swap1 AT2.out hblk i' (i' - 1) (by omega) (by omega) (HG.out _) (HG.out _)
                generalize ((wc.setCell ⟨blk, off + i', none⟩ (.int .i32 (G (i' - 1)))).setCell ⟨blk, off + (i' - 1), none⟩ (.int .i32 (G i'))).drew = W5 at AT5 ⊢
                obtain ⟨d1, hd1⟩ : ∃ d1, d1 = swp dk i' (i' - 1) := ⟨_, rfl⟩
                have hs1 : d1.size = N := by rw [hd1, size_swp]; exact hds
                rw [← hd1] at AT5
                have HF : Hid (partialIns ltInt a b (5 - (s + 1)) i' (fixUp ltInt b i' (fixDown ltInt a i' d1)) = partialInsertionSort ltInt d a b) := by
                  rw [hd1]; exact (pi_go ltInt a b s i i' dk hs HK.out hbb h50).symm.trans HE.out
                clear hd1 hcw hfw AT2 HE HK HG hbz h50z h50 AT hk1
                go_upto_if 61 with fail
                go_cut [9] from 13 to 132 (fun s9 wx => ∃ d2 : Array Int, d2.size = N ∧ Hid (At E32 w blk off d2 wx) ∧ Hid (d2 = fixDown ltInt a i' d1))
                case first =>
                  by_cases hg : i' - a ≥ 2
                  · have hgz : (2 : Int) ≤ (i' : Int) - (a : Int) := by omega
                    go_wp2_with fail
                    go_loopg [9] (i' - 1) (fun k s9 w1 => ∃ (j : Nat) (dj : Array Int), s9 = .int .i64 j ∧ j ≤ i' - 1 ∧ j ≤ k ∧ dj.size = N ∧ Hid (At E32 w blk off dj w1) ∧ Hid (shiftDown ltInt j dj = fixDown ltInt a i' d1))
                    case atStart => exact ⟨i' - 1, d1, by congr 1; omega, Nat.le_refl _, Nat.le_refl _, hs1, AT5, by show shiftDown ltInt (i' - 1) d1 = fixDown ltInt a i' d1; unfold fixDown; rw [if_pos hg]⟩
                    case round =>
                      obtain ⟨j, dj, rfl, hji, hjk, hsj, AT6, HS6⟩ := hrel
                      clear AT5
                      by_cases hj1 : 1 ≤ j
                      · have hj1z : (1 : Int) ≤ (j : Int) := by omega
                        obtain ⟨G, hG⟩ : ∃ G : Nat → Int, ∀ t, G t = dj[t]! := ⟨fun t => dj[t]!, fun _ => rfl⟩
                        obtain ⟨hcw, hfw, -, -⟩ := At.cells AT6.out HH.out hN hsj hblk
                        simp only [← hG] at hcw
                        have HG : Hid (∀ t, G t = dj[t]!) := hG
                        clear hG
                        go_wp2_with fail
                        go_big_quiet (first | (go_at_call 28; refine Calls.quiet_of_same (Yba.less32 _ _ _)))
                        go_wp2_with fail
                        · have hl : ltInt (G j) (G (j - 1)) = false := by
                            have : (!ltInt (G j) (G (j - 1))) = true := by assumption
                            simpa using this
                          go_meet
                          case rel => exact ⟨dj, hsj, At.drawn AT6.out nq, (shiftDown_stop ltInt j dj (Or.inr (by rw [← HG.out, ← HG.out]; exact hl))).symm.trans HS6.out⟩
                        · have hl : ltInt (G j) (G (j - 1)) = true := by
                            have : (!ltInt (G j) (G (j - 1))) = false := by assumption
                            simpa using this
                          go_region
                          go_wp2
                          go_roundg (j - 1)
                          case measure => omega
                          case rel => exact ⟨j - 1, swp dj j (j - 1), by congr 1; omega, by omega, Nat.le_refl _, by rw [size_swp]; exact hsj, At.swap AT6.out hblk (nq + 1) j (j - 1) (by omega) (by omega) (HG.out _) (HG.out _),
                              (shiftDown_go ltInt j dj hj1 (by rw [← HG.out, ← HG.out]; exact hl)).symm.trans HS6.out⟩
                      · have hj1z : ¬ ((1 : Int) ≤ (j : Int)) := by omega
                        go_wp2_with fail
                        go_meet
                        case rel => exact ⟨dj, hsj, AT6, (shiftDown_stop ltInt j dj (Or.inl (by omega))).symm.trans HS6.out⟩
                  · have hgz : ¬ ((2 : Int) ≤ (i' : Int) - (a : Int)) := by omega
                    go_wp2_with fail
                    go_meet
                    case rel => exact ⟨d1, hs1, AT5, by show d1 = fixDown ltInt a i' d1; unfold fixDown; rw [if_neg hg]⟩
                case rest =>
                  obtain ⟨d2, hs2, AT7, HD2⟩ := hcut
                  rw [← HD2.out] at HF
                  clear HD2 AT5
                  by_cases hg : b - i' ≥ 2
                  · have hgz : (2 : Int) ≤ (b : Int) - (i' : Int) := by omega
                    go_wp2_with fail
                    go_loopg [10] (b - i') (fun k s10 w1 => ∃ (j : Nat) (dj : Array Int), s10 = .int .i64 j ∧ i' < j ∧ j ≤ b ∧ b - j ≤ k ∧ dj.size = N ∧ Hid (At E32 w blk off dj w1) ∧ Hid (shiftUp ltInt b j dj = fixUp ltInt b i' d2))
                    case atStart => exact ⟨i' + 1, d2, by go_num, by omega, by omega, by omega, hs2, AT7, by show shiftUp ltInt b (i' + 1) d2 = fixUp ltInt b i' d2; unfold fixUp; rw [if_pos hg]⟩
                    case round =>
                      obtain ⟨j, dj, rfl, hji, hjb, hjk, hsj, AT6, HS6⟩ := hrel
                      clear AT7
                      by_cases hj1 : j < b
                      · have hj1z : (j : Int) < (b : Int) := by omega
                        obtain ⟨G, hG⟩ : ∃ G : Nat → Int, ∀ t, G t = dj[t]! := ⟨fun t => dj[t]!, fun _ => rfl⟩
                        obtain ⟨hcw, hfw, -, -⟩ := At.cells AT6.out HH.out hN hsj hblk
                        simp only [← hG] at hcw
                        have HG : Hid (∀ t, G t = dj[t]!) := hG
                        clear hG
                        go_wp2_with fail
                        go_big_quiet (first | (go_at_call 28; refine Calls.quiet_of_same (Yba.less32 _ _ _)))
                        go_wp2_with fail
                        · have hl : ltInt (G j) (G (j - 1)) = false := by
                            have : (!ltInt (G j) (G (j - 1))) = true := by assumption
                            simpa using this
                          go_roundg (5 - (s + 1))
                          case measure => omega
                          case rel => exact ⟨i', s + 1, dj, rfl, by go_num, by omega, Nat.le_refl _, by omega, by omega, hsj, At.drawn AT6.out nq, by
                              have e : dj = fixUp ltInt b i' d2 := (shiftUp_stop ltInt b j dj (Or.inr (by rw [← HG.out, ← HG.out]; exact hl))).symm.trans HS6.out
                              rw [e]; exact HF.out⟩
                        · have hl : ltInt (G j) (G (j - 1)) = true := by
                            have : (!ltInt (G j) (G (j - 1))) = false := by assumption
                            simpa using this
                          go_region
                          go_wp2
                          go_roundg (b - (j + 1))
                          case measure => omega
                          case rel => exact ⟨j + 1, swp dj j (j - 1), by go_num, by omega, by omega, Nat.le_refl _, by rw [size_swp]; exact hsj, At.swap AT6.out hblk (nq + 1) j (j - 1) (by omega) (by omega) (HG.out _) (HG.out _),
                              (shiftUp_go ltInt b j dj hj1 (by rw [← HG.out, ← HG.out]; exact hl)).symm.trans HS6.out⟩
                      · have hj1z : ¬ ((j : Int) < (b : Int)) := by omega
                        go_wp2_with fail
                        go_roundg (5 - (s + 1))
                        case measure => omega
                        case rel => exact ⟨i', s + 1, dj, rfl, by go_num, by omega, Nat.le_refl _, by omega, by omega, hsj, AT6.out, by
                            have e : dj = fixUp ltInt b i' d2 := (shiftUp_stop ltInt b j dj (Or.inl hj1)).symm.trans HS6.out
                            rw [e]; exact HF.out⟩
                  · have hgz : ¬ ((2 : Int) ≤ (b : Int) - (i' : Int)) := by omega
                    go_wp2_with fail
                    go_roundg (5 - (s + 1))
                    case measure => omega
                    case rel => exact ⟨i', s + 1, d2, rfl, by go_num, by omega, Nat.le_refl _, by omega, by omega, hs2, AT7.out, by
                        have e : d2 = fixUp ltInt b i' d2 := by unfold fixUp; rw [if_neg hg]
                        rw [e]; exact HF.out⟩
          · have h2 := Bool.and_eq_true_iff.1 hB
            have hle : i' < b := by simpa using h2.1
            have HS2 : Hid (scanSorted ltInt dk b (i' + 1) = scanSorted ltInt dk b i) := (scanSorted_go ltInt dk b i' hle (by rw [← HG.out, ← HG.out]; simpa using h2.2)).symm.trans HS1.out
            clear h2
            go_wp2_with fail
            go_roundg (b - (i' + 1))
            case measure => omega
            case rel => exact ⟨i' + 1, by go_num, by omega, by omega, Nat.le_refl _, AT2, HS2⟩
    · obtain rfl : s = 5 := by omega
      go_wp2
      go_ret
      have hF := HE.out
      exact ⟨by rw [← hF]; rfl, by rw [← hF]; exact AT.out⟩
end Go.Proofs.Ybulkzhy

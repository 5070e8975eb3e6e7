/-
  slices.partitionOrdered[int32] computes 'Sort.partition'. (The scans' text stands twice: laid by program.)
-/
import Derived.Test.YbulkzhyRow32
import Derived.Sort.WalkC4
import Derived.Deep.DeepCutAuto
namespace Go.Proofs.Ybulkzhy
open Go.RowKit Go.Sort
set_option linter.unusedVariables false

set_option maxHeartbeats 6000000 in
set_option maxRecDepth 1000000 in
theorem Yba.part32 (blk off cap N a b pv : Nat) (d : Array Int) (w : World) (hH : Holds E32 w blk off d) (hN : d.size = N) (hblk : blk < w.heap.size) (hap : a ≤ pv) (hpb : pv < b) (hb : b ≤ N) (hsz : N < 4611686018427387904) :
    Calls Yba.prog 30 #[.slice (some ⟨blk, off, none⟩) N cap, .int .i64 a, .int .i64 b, .int .i64 pv] w fun e w' =>
      e = .returned (.tuple #[.int .i64 (partition ltInt d a b pv).1, .bool (partition ltInt d a b pv).2.1]) ∧ At E32 w blk off (partition ltInt d a b pv).2.2 w' := by
  have HH : Hid (Holds E32 w blk off d) := hH
  obtain ⟨G0, hG0⟩ : ∃ G : Nat → Int, ∀ t, G t = d[t]! := ⟨fun t => d[t]!, fun _ => rfl⟩
  obtain ⟨hcw, hfw, -, -⟩ := At.cells (At.refl hH) hH hN hN hblk
  simp only [← hG0] at hcw
  have HG0 : Hid (∀ t, G0 t = d[t]!) := hG0
  clear hH hG0
  obtain ⟨v3, hy3⟩ := cell?_setCell_some (w := w) (p := ⟨blk, off + a, none⟩) (x := .int .i32 (G0 pv)) (q := ⟨blk, off + pv, none⟩) (hcw pv (by omega))
  go_enter Yba.func30, Yba.ntmps30
  go_wp2
  go_region
  have AT : Hid (At E32 w blk off (swp d a pv) ((w.setCell ⟨blk, off + a, none⟩ (.int .i32 (G0 pv))).setCell ⟨blk, off + pv, none⟩ (.int .i32 (G0 a))).drew) := At.swap1 (At.refl HH.out) hblk a pv (by omega) (by omega) (HG0.out pv) (HG0.out a)
  generalize ((w.setCell ⟨blk, off + a, none⟩ (.int .i32 (G0 pv))).setCell ⟨blk, off + pv, none⟩ (.int .i32 (G0 a))).drew = W0 at AT ⊢
  clear hy3 hcw hfw HG0
  obtain ⟨dk, hdk⟩ : ∃ dk, dk = swp d a pv := ⟨_, rfl⟩
  rw [← hdk] at AT
  have hds : dk.size = N := by rw [hdk, size_swp]; exact hN
  obtain ⟨G, hG⟩ : ∃ G : Nat → Int, ∀ t, G t = dk[t]! := ⟨fun t => dk[t]!, fun _ => rfl⟩
  have HG : Hid (∀ t, G t = dk[t]!) := hG
  clear hG
  obtain ⟨i, hi⟩ : ∃ i, i = a + 1 := ⟨_, rfl⟩
  obtain ⟨j, hj⟩ : ∃ j, j = b - 1 := ⟨_, rfl⟩
  have HD : Hid (i = a + 1 ∧ j = b - 1 ∧ dk = swp d a pv) := ⟨hi, hj, hdk⟩
  have hiz : (a : Int) + 1 = (i : Int) := by omega
  have hjz : (b : Int) - 1 = (j : Int) := by omega
  have hai : a < i := by omega
  have hij : i ≤ j + 1 := by omega
  have hjb : j < b := by omega
  clear hdk hi hj
  go_wp2
  go_loopg [10] (j + 1 - i) (fun k s10 w1 => ∃ i' : Nat, s10 = .int .i64 i' ∧ i ≤ i' ∧ i' ≤ j + 1 ∧ j + 1 - i' ≤ k ∧ Hid (At E32 w blk off dk w1) ∧
      Hid (scanUp (fun x => ltInt x dk[a]!) dk j i' = scanUp (fun x => ltInt x dk[a]!) dk j i))
  case atStart => exact ⟨i, rfl, Nat.le_refl _, hij, Nat.le_refl _, AT, rfl⟩
  case round =>
    obtain ⟨i', rfl, hii, hij', hk1, AT1, HS1⟩ := hrel
    obtain ⟨hcw, hfw, -, -⟩ := At.cells AT1.out HH.out hN hds hblk
    simp only [← HG.out] at hcw
    go_upto_region 3 with fail
    go_cut [43] from 30 to 45 (fun st wc => st = .bool (decide (i' ≤ j) && ltInt (G i') (G a)) ∧ Hid (At E32 w blk off dk wc))
    case first =>
      by_cases hle : i' ≤ j
      · have hlez : (i' : Int) ≤ (j : Int) := by omega
        go_big_quiet (first | (go_at_call 28; refine Calls.quiet_of_same (Yba.less32 _ _ _)))
        go_wp2_with fail
        go_meet
        case rel => exact ⟨by simp [hle], At.drawn AT1.out nq⟩
      · have hlez : decide ((i' : Int) ≤ (j : Int)) = false := decide_eq_false (by omega)
        go_big_quiet (first | (go_at_call 28; refine Calls.quiet_of_same (Yba.less32 _ _ _)))
        go_wp2_with fail
        go_meet
        case rel => exact ⟨by simp [hle], At.drawn AT1.out nq⟩
    case rest =>
      obtain ⟨rfl, AT2⟩ := hcut
      clear hcw hfw AT1
      cases hB : (decide (i' ≤ j) && ltInt (G i') (G a))
      · have HI2 : Hid (i' = scanUp (fun x => ltInt x dk[a]!) dk j i) := (scanUp_end (fun x => ltInt x dk[a]!) dk j i' (by
          by_cases hle : i' ≤ j
          · exact Or.inr (by rw [← HG.out, ← HG.out]; simpa [hle] using hB)
          · exact Or.inl hle)).symm.trans HS1.out
        clear HS1
        go_wp2_with fail
        go_loopg [11] (j + 1) (fun k s11 w1 => ∃ j' : Nat, s11 = .int .i64 j' ∧ j' ≤ j ∧ i' ≤ j' + 1 ∧ j' + 1 ≤ k ∧ Hid (At E32 w blk off dk w1) ∧
            Hid (scanDown (fun x => !ltInt x dk[a]!) dk i' j' = scanDown (fun x => !ltInt x dk[a]!) dk i' j))
        case atStart => exact ⟨j, rfl, Nat.le_refl _, hij', Nat.le_refl _, AT2, rfl⟩
        case round =>
          obtain ⟨j', rfl, hjj, hij2, hk2, AT3, HS3⟩ := hrel
          clear AT2
          obtain ⟨hcw, hfw, -, -⟩ := At.cells AT3.out HH.out hN hds hblk
          simp only [← HG.out] at hcw
          go_upto_region 5 with fail
          go_cut [60] from 46 to 62 (fun st wc => st = .bool (decide (i' ≤ j') && !ltInt (G j') (G a)) ∧ Hid (At E32 w blk off dk wc))
          case first =>
            by_cases hle : i' ≤ j'
            · have hlez : (i' : Int) ≤ (j' : Int) := by omega
              go_big_quiet (first | (go_at_call 28; refine Calls.quiet_of_same (Yba.less32 _ _ _)))
              go_wp2_with fail
              go_meet
              case rel => exact ⟨by simp [hle], At.drawn AT3.out nq⟩
            · have hlez : decide ((i' : Int) ≤ (j' : Int)) = false := decide_eq_false (by omega)
              go_big_quiet (first | (go_at_call 28; refine Calls.quiet_of_same (Yba.less32 _ _ _)))
              go_wp2_with fail
              go_meet
              case rel => exact ⟨by simp [hle], At.drawn AT3.out nq⟩
          case rest =>
            obtain ⟨rfl, AT4⟩ := hcut
            clear hcw hfw AT3 hB
            cases hB : (decide (i' ≤ j') && !ltInt (G j') (G a))
            · have HJ2 : Hid (j' = scanDown (fun x => !ltInt x dk[a]!) dk i' j) := (scanDown_end (fun x => !ltInt x dk[a]!) dk i' j' (by
                by_cases hle : i' ≤ j'
                · exact Or.inr (by rw [← HG.out, ← HG.out]; simpa [hle] using hB)
                · exact Or.inl hle)).symm.trans HS3.out
              clear HS3
              obtain ⟨hcw, hfw, -, -⟩ := At.cells AT4.out HH.out hN hds hblk
              simp only [← HG.out] at hcw
              by_cases hle : i' ≤ j'
              · have hlez : ¬ ((j' : Int) < (i' : Int)) := by omega
                have hlt : i' < j' := part_scans_lt ltInt a i j dk (by omega) HI2.out HJ2.out hle
                obtain ⟨R, hR⟩ : ∃ R, R = partLoop ltInt a (i' + 1) (j' - 1) (swp dk i' j') := ⟨_, rfl⟩
                have HP : Hid (partition ltInt d a b pv = (R.1, false, swp R.2 R.1 a)) := by
                  rw [hR]; exact part_first_go ltInt d a b pv HD.out.1 HD.out.2.1 HD.out.2.2 HI2.out HJ2.out (by omega)
                have HR : Hid (R = partLoop ltInt a (i' + 1) (j' - 1) (swp dk i' j')) := hR
                clear hR
                go_wp2_with fail
                go_region
                have AT0 : Hid (At E32 w blk off (swp dk i' j') ((wc.setCell ⟨blk, off + i', none⟩ (.int .i32 (G j'))).setCell ⟨blk, off + j', none⟩ (.int .i32 (G i'))).drew) := At.swap1 AT4.out hblk i' j' (by omega) (by omega) (HG.out _) (HG.out _)
                generalize ((wc.setCell ⟨blk, off + i', none⟩ (.int .i32 (G j'))).setCell ⟨blk, off + j', none⟩ (.int .i32 (G i'))).drew = W5 at AT0 ⊢
                clear hcw hfw AT4 HI2 HJ2 HG HD hk1 hk2 hB
                go_wp2
                go_loopg [10, 11] (b - a) (fun k s10 s11 wr => ∃ (i j : Nat) (dk : Array Int), s10 = .int .i64 i ∧ s11 = .int .i64 j ∧ a < i ∧ i ≤ j + 1 ∧ j < b ∧ j + 1 - i ≤ k ∧ dk.size = N ∧ At E32 w blk off dk wr ∧
                    partLoop ltInt a i j dk = R)
                case atStart => exact ⟨i' + 1, j' - 1, swp dk i' j', by go_num, by congr 1; omega, by omega, by omega, by omega, by omega, by rw [size_swp]; exact hds, AT0.out, HR.out.symm⟩
                case round =>
                  obtain ⟨i, j, dk, rfl, rfl, hai, hij, hjb, hk, hds, hat, heq⟩ := hrel
                  obtain ⟨G, hG⟩ : ∃ G : Nat → Int, ∀ t, G t = dk[t]! := ⟨fun t => dk[t]!, fun _ => rfl⟩
                  have HG : Hid (∀ t, G t = dk[t]!) := hG
                  have AT : Hid (At E32 w blk off dk wr) := hat
                  have HE : Hid (partLoop ltInt a i j dk = R) := heq
                  clear hG hat heq AT0 HR
                  go_wp2
                  go_loopg [10] (j + 1 - i) (fun k s10 w1 => ∃ i' : Nat, s10 = .int .i64 i' ∧ i ≤ i' ∧ i' ≤ j + 1 ∧ j + 1 - i' ≤ k ∧ Hid (At E32 w blk off dk w1) ∧
                      Hid (scanUp (fun x => ltInt x dk[a]!) dk j i' = scanUp (fun x => ltInt x dk[a]!) dk j i))
                  case atStart => exact ⟨i, rfl, Nat.le_refl _, hij, Nat.le_refl _, AT, rfl⟩
                  case round =>
                    obtain ⟨i', rfl, hii, hij', hk1, AT1, HS1⟩ := hrel
                    obtain ⟨hcw, hfw, -, -⟩ := At.cells AT1.out HH.out hN hds hblk
                    simp only [← HG.out] at hcw
                    go_upto_region 13 with fail
                    go_cut [112] from 99 to 114 (fun st wc => st = .bool (decide (i' ≤ j) && ltInt (G i') (G a)) ∧ Hid (At E32 w blk off dk wc))
                    case first =>
                      by_cases hle : i' ≤ j
                      · have hlez : (i' : Int) ≤ (j : Int) := by omega
                        go_big_quiet (first | (go_at_call 28; refine Calls.quiet_of_same (Yba.less32 _ _ _)))
                        go_wp2_with fail
                        go_meet
                        case rel => exact ⟨by simp [hle], At.drawn AT1.out nq⟩
                      · have hlez : decide ((i' : Int) ≤ (j : Int)) = false := decide_eq_false (by omega)
                        go_big_quiet (first | (go_at_call 28; refine Calls.quiet_of_same (Yba.less32 _ _ _)))
                        go_wp2_with fail
                        go_meet
                        case rel => exact ⟨by simp [hle], At.drawn AT1.out nq⟩
                    case rest =>
                      obtain ⟨rfl, AT2⟩ := hcut
                      clear hcw hfw AT1
                      cases hB : (decide (i' ≤ j) && ltInt (G i') (G a))
                      · have HI2 : Hid (i' = scanUp (fun x => ltInt x dk[a]!) dk j i) := (scanUp_end (fun x => ltInt x dk[a]!) dk j i' (by
                          by_cases hle : i' ≤ j
                          · exact Or.inr (by rw [← HG.out, ← HG.out]; simpa [hle] using hB)
                          · exact Or.inl hle)).symm.trans HS1.out
                        clear HS1
                        go_wp2_with fail
                        go_loopg [11] (j + 1) (fun k s11 w1 => ∃ j' : Nat, s11 = .int .i64 j' ∧ j' ≤ j ∧ i' ≤ j' + 1 ∧ j' + 1 ≤ k ∧ Hid (At E32 w blk off dk w1) ∧
                            Hid (scanDown (fun x => !ltInt x dk[a]!) dk i' j' = scanDown (fun x => !ltInt x dk[a]!) dk i' j))
                        case atStart => exact ⟨j, rfl, Nat.le_refl _, hij', Nat.le_refl _, AT2, rfl⟩
                        case round =>
                          obtain ⟨j', rfl, hjj, hij2, hk2, AT3, HS3⟩ := hrel
                          clear AT2
                          obtain ⟨hcw, hfw, -, -⟩ := At.cells AT3.out HH.out hN hds hblk
                          simp only [← HG.out] at hcw
                          go_upto_region 15 with fail
                          go_cut [129] from 115 to 131 (fun st wc => st = .bool (decide (i' ≤ j') && !ltInt (G j') (G a)) ∧ Hid (At E32 w blk off dk wc))
                          case first =>
                            by_cases hle : i' ≤ j'
                            · have hlez : (i' : Int) ≤ (j' : Int) := by omega
                              go_big_quiet (first | (go_at_call 28; refine Calls.quiet_of_same (Yba.less32 _ _ _)))
                              go_wp2_with fail
                              go_meet
                              case rel => exact ⟨by simp [hle], At.drawn AT3.out nq⟩
                            · have hlez : decide ((i' : Int) ≤ (j' : Int)) = false := decide_eq_false (by omega)
                              go_big_quiet (first | (go_at_call 28; refine Calls.quiet_of_same (Yba.less32 _ _ _)))
                              go_wp2_with fail
                              go_meet
                              case rel => exact ⟨by simp [hle], At.drawn AT3.out nq⟩
                          case rest =>
                            obtain ⟨rfl, AT4⟩ := hcut
                            clear hcw hfw AT3 hB
                            cases hB : (decide (i' ≤ j') && !ltInt (G j') (G a))
                            · have HJ2 : Hid (j' = scanDown (fun x => !ltInt x dk[a]!) dk i' j) := (scanDown_end (fun x => !ltInt x dk[a]!) dk i' j' (by
                                by_cases hle : i' ≤ j'
                                · exact Or.inr (by rw [← HG.out, ← HG.out]; simpa [hle] using hB)
                                · exact Or.inl hle)).symm.trans HS3.out
                              clear HS3
                              obtain ⟨hcw, hfw, -, -⟩ := At.cells AT4.out HH.out hN hds hblk
                              simp only [← HG.out] at hcw
                              by_cases hle : i' ≤ j'
                              · have hlez : ¬ ((j' : Int) < (i' : Int)) := by omega
                                have hlt : i' < j' := part_scans_lt ltInt a i j dk (by omega) HI2.out HJ2.out hle
                                go_wp2_with fail
                                go_region
                                go_wp2
                                go_roundg (j' - 1 + 1 - (i' + 1))
                                case measure => omega
                                case rel => exact ⟨i' + 1, j' - 1, swp dk i' j', by go_num, by congr 1; omega, by omega, by omega, by omega, Nat.le_refl _, by rw [size_swp]; exact hds, At.swap1 AT4.out hblk i' j' (by omega) (by omega) (HG.out _) (HG.out _),
                                    by rw [← HE.out]; exact (part_go ltInt a i j dk HI2.out HJ2.out (by omega)).symm⟩
                              · have hlez : (j' : Int) < (i' : Int) := by omega
                                obtain ⟨v3, hy3⟩ := cell?_setCell_some (w := wc) (p := ⟨blk, off + j', none⟩) (x := .int .i32 (G a)) (q := ⟨blk, off + a, none⟩) (hcw a (by omega))
                                have HF : Hid (partition ltInt d a b pv = (j', false, swp dk j' a)) := by
                                  have e := part_break ltInt a i j dk HI2.out HJ2.out (by omega)
                                  rw [HE.out] at e
                                  show partition ltInt d a b pv = (j', false, swp dk j' a)
                                  rw [HP.out, e]
                                go_wp2_with fail
                                go_region
                                go_wp2
                                go_ret2
                                exact ⟨by rw [HF.out]; rfl, by rw [HF.out]; exact At.swap1 AT4.out hblk j' a (by omega) (by omega) (HG.out _) (HG.out _)⟩
                            · have h2 := Bool.and_eq_true_iff.1 hB
                              have hle : i' ≤ j' := by simpa using h2.1
                              have HS4 : Hid (scanDown (fun x => !ltInt x dk[a]!) dk i' (j' - 1) = scanDown (fun x => !ltInt x dk[a]!) dk i' j) := (scanDown_go (fun x => !ltInt x dk[a]!) dk i' j' hle (by omega) (by rw [← HG.out, ← HG.out]; exact h2.2)).symm.trans HS3.out
                              clear h2
                              go_wp2_with fail
                              go_roundg j'
                              case measure => omega
                              case rel => exact ⟨j' - 1, by congr 1; omega, by omega, by omega, by omega, AT4, HS4⟩
                      · have h2 := Bool.and_eq_true_iff.1 hB
                        have hle : i' ≤ j := by simpa using h2.1
                        have HS2 : Hid (scanUp (fun x => ltInt x dk[a]!) dk j (i' + 1) = scanUp (fun x => ltInt x dk[a]!) dk j i) := (scanUp_go (fun x => ltInt x dk[a]!) dk j i' hle (by rw [← HG.out, ← HG.out]; exact h2.2)).symm.trans HS1.out
                        clear h2
                        go_wp2_with fail
                        go_roundg (j + 1 - (i' + 1))
                        case measure => omega
                        case rel => exact ⟨i' + 1, by go_num, by omega, by omega, Nat.le_refl _, AT2, HS2⟩
              · have hlez : (j' : Int) < (i' : Int) := by omega
                obtain ⟨v3, hy3⟩ := cell?_setCell_some (w := wc) (p := ⟨blk, off + j', none⟩) (x := .int .i32 (G a)) (q := ⟨blk, off + a, none⟩) (hcw a (by omega))
                have HF : Hid (partition ltInt d a b pv = (j', true, swp dk j' a)) := part_first_break ltInt d a b pv HD.out.1 HD.out.2.1 HD.out.2.2 HI2.out HJ2.out (by omega)
                go_wp2_with fail
                go_region
                go_wp2
                go_ret2
                exact ⟨by rw [HF.out]; rfl, by rw [HF.out]; exact At.swap1 AT4.out hblk j' a (by omega) (by omega) (HG.out _) (HG.out _)⟩
            · have h2 := Bool.and_eq_true_iff.1 hB
              have hle : i' ≤ j' := by simpa using h2.1
              have HS4 : Hid (scanDown (fun x => !ltInt x dk[a]!) dk i' (j' - 1) = scanDown (fun x => !ltInt x dk[a]!) dk i' j) := (scanDown_go (fun x => !ltInt x dk[a]!) dk i' j' hle (by omega) (by rw [← HG.out, ← HG.out]; exact h2.2)).symm.trans HS3.out
              clear h2
              go_wp2_with fail
              go_roundg j'
              case measure => omega
              case rel => exact ⟨j' - 1, by congr 1; omega, by omega, by omega, by omega, AT4, HS4⟩
      · have h2 := Bool.and_eq_true_iff.1 hB
        have hle : i' ≤ j := by simpa using h2.1
        have HS2 : Hid (scanUp (fun x => ltInt x dk[a]!) dk j (i' + 1) = scanUp (fun x => ltInt x dk[a]!) dk j i) := (scanUp_go (fun x => ltInt x dk[a]!) dk j i' hle (by rw [← HG.out, ← HG.out]; exact h2.2)).symm.trans HS1.out
        clear h2
        go_wp2_with fail
        go_roundg (j + 1 - (i' + 1))
        case measure => omega
        case rel => exact ⟨i' + 1, by go_num, by omega, by omega, Nat.le_refl _, AT2, HS2⟩
end Go.Proofs.Ybulkzhy

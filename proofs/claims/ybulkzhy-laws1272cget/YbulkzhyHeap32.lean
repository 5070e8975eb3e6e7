/-
  slices.siftDownOrdered[int32] and slices.heapSortOrdered[int32] compute 'Sort.siftDown', 'Sort.heapSort'.
-/
import Derived.Test.YbulkzhyRow32
import Derived.Sort.WalkB2
import Derived.Deep.DeepCutAuto
namespace Go.Proofs.Ybulkzhy
open Go.RowKit Go.Sort
set_option linter.unusedVariables false

/-- What the round has found: the greater child c. -/
def Child (hi F root : Nat) (d : Array Int) (c : Nat) : Prop :=
  root < c ∧ c < hi ∧ (ltInt d[F + root]! d[F + c]! = false → siftDown ltInt hi F root d = d) ∧
    (ltInt d[F + root]! d[F + c]! = true → siftDown ltInt hi F root d = siftDown ltInt hi F c (swp d (F + root) (F + c)))
theorem Child.right {hi F root : Nat} {d : Array Int} (h1 : 2 * root + 2 < hi) (h2 : ltInt d[F + 2 * root + 1]! d[F + 2 * root + 2]! = true) : Child hi F root d (2 * root + 2) := by
  rw [show F + 2 * root + 1 = F + (2 * root + 1) by omega, show F + 2 * root + 2 = F + (2 * root + 2) by omega] at h2
  exact ⟨by omega, h1, fun h => sd_right_stop ltInt d h1 h2 h, fun h => sd_right_go ltInt d h1 h2 h⟩
theorem Child.left {hi F root : Nat} {d : Array Int} (h0 : 2 * root + 1 < hi) (h2 : 2 * root + 2 < hi → ltInt d[F + 2 * root + 1]! d[F + 2 * root + 2]! = false) : Child hi F root d (2 * root + 1) := by
  rw [show F + 2 * root + 1 = F + (2 * root + 1) by omega, show F + 2 * root + 2 = F + (2 * root + 2) by omega] at h2
  exact ⟨by omega, h0, fun h => sd_left_stop ltInt d h0 h2 h, fun h => sd_left_go ltInt d h0 h2 h⟩

set_option maxHeartbeats 2000000 in
set_option maxRecDepth 1000000 in
theorem Yba.sift32 (blk off cap N lo hi F : Nat) (d : Array Int) (w : World) (hH : Holds E32 w blk off d) (hN : d.size = N) (hblk : blk < w.heap.size) (hlo : lo ≤ hi) (hb : F + hi ≤ N) (hsz : N < 4611686018427387904) :
    Calls Yba.prog 41 #[.slice (some ⟨blk, off, none⟩) N cap, .int .i64 lo, .int .i64 hi, .int .i64 F] w fun e w' =>
      e = .returned (.tuple #[]) ∧ At E32 w blk off (siftDown ltInt hi F lo d) w' := by
  go_enter Yba.func41, Yba.ntmps41
  go_wp2
  go_loopg [8] (hi - lo) (fun k s8 wr => ∃ (root : Nat) (dk : Array Int), s8 = .int .i64 root ∧ root ≤ hi ∧ hi - root ≤ k ∧ dk.size = N ∧ At E32 w blk off dk wr ∧ siftDown ltInt hi F root dk = siftDown ltInt hi F lo d)
  case atStart => exact ⟨lo, d, rfl, hlo, Nat.le_refl _, hN, At.refl hH, rfl⟩
  case round =>
    obtain ⟨root, dk, rfl, hr, hk, hds, hat, heq⟩ := hrel
    obtain ⟨G, hG⟩ : ∃ G : Nat → Int, ∀ t, G t = dk[t]! := ⟨fun t => dk[t]!, fun _ => rfl⟩
    obtain ⟨hcw, hfw, -, -⟩ := At.cells hat hH hN hds hblk
    simp only [← hG] at hcw
    have AT : Hid (At E32 w blk off dk wr) := hat
    have HH : Hid (Holds E32 w blk off d) := hH
    have HG : Hid (∀ t, G t = dk[t]!) := hG
    have HE : Hid (siftDown ltInt hi F root dk = siftDown ltInt hi F lo d) := heq
    clear hat hG heq hH
    by_cases h0 : hi ≤ 2 * root + 1
    · have h0z : (hi : Int) ≤ 2 * (root : Int) + 1 := by omega
      go_wp2
      go_end0
      exact ⟨rfl, by rw [← HE.out, sd_end ltInt dk h0]; exact AT.out⟩
    · have h0z : ¬ ((hi : Int) ≤ 2 * (root : Int) + 1) := by omega
      go_upto_region 3 with fail
      go_cut [36] from 11 to 75 (fun s36 wc => s36 = .bool (decide (2 * root + 2 < hi) && ltInt (G (F + 2 * root + 1)) (G (F + 2 * root + 2))) ∧ At E32 w blk off dk wc)
      case first =>
        by_cases h1 : 2 * root + 2 < hi
        · have h1z : 2 * (root : Int) + 1 + 1 < (hi : Int) := by omega
          go_big_quiet (first | (go_at_call 28; refine Calls.quiet_of_same (Yba.less32 _ _ _)))
          go_wp2_with fail
          go_meet
          case rel => exact ⟨by simp [h1], At.drawn AT.out nq⟩
        · have h1z : decide (2 * (root : Int) + 1 + 1 < (hi : Int)) = false := decide_eq_false (by omega)
          go_big_quiet (first | (go_at_call 28; refine Calls.quiet_of_same (Yba.less32 _ _ _)))
          go_wp2_with fail
          go_meet
          case rel => exact ⟨by simp [h1], At.drawn AT.out nq⟩
      case rest =>
        obtain ⟨rfl, hat1⟩ := hcut
        clear hcw hfw
        have AT1 : Hid (At E32 w blk off dk wc) := hat1
        clear hat1
        go_upto_if 36 with fail
        go_cut [9] from 11 to 75 (fun s9 wx => ∃ c : Nat, s9 = .int .i64 c ∧ Child hi F root dk c ∧ wc = wx)
        case first =>
          cases hL : (decide (2 * root + 2 < hi) && ltInt (G (F + 2 * root + 1)) (G (F + 2 * root + 2)))
          · have CH : Hid (Child hi F root dk (2 * root + 1)) := Child.left (by omega) (fun h => by
              rw [← HG.out, ← HG.out]; simpa [h] using hL)
            go_wp2_with fail
            go_meet
            case rel => exact ⟨2 * root + 1, by congr 1, CH.out, rfl⟩
          · have CH : Hid (Child hi F root dk (2 * root + 2)) := by
              have h2 := Bool.and_eq_true_iff.1 hL
              exact Child.right (by simpa using h2.1) (by rw [← HG.out, ← HG.out]; exact h2.2)
            go_wp2_with fail
            go_meet
            case rel => exact ⟨2 * root + 2, by congr 1, CH.out, rfl⟩
        case rest =>
          obtain ⟨c, rfl, hc, rfl⟩ := hcut
          have hat2 := AT1.out
          obtain ⟨hcw, hfw, -, -⟩ := At.cells hat2 HH.out hN hds hblk
          simp only [← HG.out] at hcw
          have hc1 := hc.1
          have hc2 := hc.2.1
          have HC : Hid (Child hi F root dk c) := hc
          have AT2 : Hid (At E32 w blk off dk wc) := hat2
          clear hc hat2
          go_wp2_with fail
          go_big_quiet (first | (go_at_call 28; refine Calls.quiet_of_same (Yba.less32 _ _ _)))
          go_wp2_with fail
          · have hS : ltInt (G (F + root)) (G (F + c)) = false := by
              have : (!ltInt (G (F + root)) (G (F + c))) = true := by assumption
              simpa using this
            (try simp only [Exit.inBlock, Exit.then]); refine bodyPost_ret (results_none rfl _ _ _) rfl ?_
            exact ⟨rfl, by rw [← HE.out, HC.out.2.2.1 (by rw [← HG.out, ← HG.out]; exact hS)]; exact At.drawn AT2.out nq⟩
          · have hS : ltInt (G (F + root)) (G (F + c)) = true := by
              have : (!ltInt (G (F + root)) (G (F + c))) = false := by assumption
              simpa using this
            go_region
            go_wp2
            go_roundg (hi - c)
            case measure => omega
            case rel =>
              exact ⟨c, swp dk (F + root) (F + c), rfl, by omega, Nat.le_refl _, by rw [size_swp]; exact hds, At.swap AT2.out hblk (nq + 1) (F + root) (F + c) (by omega) (by omega) (HG.out _) (HG.out _),
                by rw [← HE.out, HC.out.2.2.2 (by rw [← HG.out, ← HG.out]; exact hS)]⟩

end Go.Proofs.Ybulkzhy

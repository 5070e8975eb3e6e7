/-
  slices.reverseRangeOrdered[int32] computes 'Sort.reverseRange'.
-/
import Derived.Test.YbulkzhyRow32
import Derived.Sort.WalkB2
namespace Go.Proofs.Ybulkzhy
open Go.RowKit Go.Sort
set_option linter.unusedVariables false

set_option maxHeartbeats 1000000 in
theorem Yba.reverse32 (blk off cap N a b : Nat) (d : Array Int) (w : World) (hH : Holds E32 w blk off d) (hN : d.size = N) (hblk : blk < w.heap.size) (hab : a ≤ b) (hb : b ≤ N) (hsz : N < 4611686018427387904) :
    Calls Yba.prog 26 #[.slice (some ⟨blk, off, none⟩) N cap, .int .i64 a, .int .i64 b] w fun e w' =>
      e = .returned (.tuple #[]) ∧ At E32 w blk off (reverseRange d a b) w' := by
  go_enter Yba.func26, Yba.ntmps26
  go_wp2
  go_loopg [6, 7] (b - a) (fun k s6 s7 wr => ∃ (i : Nat) (z : Int) (dk : Array Int), s6 = .int .i64 i ∧ s7 = .int .i64 z ∧ -1 ≤ z ∧ z < N ∧ i ≤ N ∧ z.toNat - i ≤ k ∧
    dk.size = N ∧ At E32 w blk off dk wr ∧ reverseLoop i z.toNat dk = reverseRange d a b)
  case atStart => exact ⟨a, (b : Int) - 1, d, rfl, rfl, by omega, by omega, by omega, by omega, hN, At.refl hH, by unfold reverseRange; congr 1; omega⟩
  case round =>
    obtain ⟨i, z, dk, rfl, rfl, hz1, hz2, hi, hk, hds, hat, heq⟩ := hrel
    by_cases hlt : (i : Int) < z
    · obtain ⟨j, rfl⟩ : ∃ j : Nat, z = j := ⟨z.toNat, by omega⟩
      have hij : i < j := by omega
      obtain ⟨G, hG⟩ : ∃ G : Nat → Int, ∀ t, G t = dk[t]! := ⟨fun t => dk[t]!, fun _ => rfl⟩
      obtain ⟨hcw, hfw, -, -⟩ := At.cells hat hH hN hds hblk
      simp only [← hG] at hcw
      have AT : Hid (At E32 w blk off dk wr) := hat
      have HG : Hid (∀ t, G t = dk[t]!) := hG
      have HE : Hid (reverseLoop i (Int.toNat j) dk = reverseRange d a b) := heq
      clear hat hG heq hH
      go_wp2_with fail
      go_region
      go_wp2
      go_roundg (j - 1 - (i + 1))
      case measure => omega
      case rel =>
        have heq := HE.out
        rw [Int.toNat_natCast, reverseLoop, if_pos hij] at heq
        exact ⟨i + 1, (j : Int) - 1, swp dk i j, by simp, rfl, by omega, by omega, by omega, by omega, by rw [size_swp]; exact hds,
          At.swap1 AT.out hblk i j (by omega) (by omega) (HG.out _) (HG.out _), by rw [show ((j : Int) - 1).toNat = j - 1 by omega]; exact heq⟩
    · have hn : ¬ i < z.toNat := by omega
      have AT : Hid (At E32 w blk off dk wr) := hat
      have HE : Hid (reverseLoop i z.toNat dk = reverseRange d a b) := heq
      clear hat heq
      go_wp2
      go_end0
      have heq := HE.out
      rw [reverseLoop, if_neg hn] at heq
      exact ⟨rfl, by rw [← heq]; exact AT.out⟩
end Go.Proofs.Ybulkzhy

/-
  slices.insertionSortOrdered[int32] computes 'Sort.insertionSort'.
-/
import Derived.Test.YbulkzhyRow32
namespace Go.Proofs.Ybulkzhy
open Go.RowKit Go.Sort
set_option linter.unusedVariables false

set_option maxHeartbeats 1000000 in
theorem Yba.insertion32 (blk off cap N a b : Nat) (d : Array Int) (w : World) (hH : Holds E32 w blk off d) (hN : d.size = N) (hblk : blk < w.heap.size) (hab : a ≤ b) (hb : b ≤ N) (hsz : N < 4611686018427387904) :
    Calls Yba.prog 22 #[.slice (some ⟨blk, off, none⟩) N cap, .int .i64 a, .int .i64 b] w fun e w' =>
      e = .returned (.tuple #[]) ∧ At E32 w blk off (insertionSort ltInt d a b) w' := by
  go_enter Yba.func22, Yba.ntmps22
  go_wp2
  go_loopw [6] (fun vi wr => ∃ (i : Nat) (dk : Array Int), vi = .int .i64 i ∧ a < i ∧ i ≤ b + 1 ∧ dk.size = N ∧ At E32 w blk off dk wr ∧
      insOuter ltInt a b i dk = insertionSort ltInt d a b) (fun vi _ => b + 1 - (intOf vi).toNat)
  case atStart => exact ⟨a + 1, d, by go_num, by omega, by omega, hN, At.refl hH, rfl⟩
  case round =>
    obtain ⟨i, dk, rfl, hai, hib, hsk, hat, hO⟩ := hrel
    have AT : Hid (At E32 w blk off dk wr) := hat
    have HO : Hid (insOuter ltInt a b i dk = insertionSort ltInt d a b) := hO
    clear hat hO
    by_cases hlt : i < b
    · have hltz : (i : Int) < (b : Int) := by omega
      go_wp2
      go_loopw [7] (fun vj wr2 => ∃ (j : Nat) (dj : Array Int), vj = .int .i64 j ∧ a ≤ j ∧ j ≤ i ∧ dj.size = N ∧ At E32 w blk off dj wr2 ∧
          insInner ltInt a j dj = insInner ltInt a i dk) (fun vj _ => (intOf vj).toNat)
      case atStart => exact ⟨i, dk, rfl, by omega, Nat.le_refl _, hsk, AT.out, rfl⟩
      case round =>
        obtain ⟨j, dj, rfl, haj, hji, hsj, hat2, hI⟩ := hrel
        obtain ⟨G, hG⟩ : ∃ G : Nat → Int, ∀ t, G t = dj[t]! := ⟨fun t => dj[t]!, fun _ => rfl⟩
        obtain ⟨hcw, hfw, -, -⟩ := At.cells hat2 hH hN hsj hblk
        simp only [← hG] at hcw
        have AT2 : Hid (At E32 w blk off dj wr) := hat2
        have HG : Hid (∀ t, G t = dj[t]!) := hG
        have HI : Hid (insInner ltInt a j dj = insInner ltInt a i dk) := hI
        clear hat2 hG hI hH
        have OUT : Hid ((j ≤ a ∨ ltInt (G j) (G (j - 1)) = false) → ∀ q, ∃ i' dk', Value.int .i64 ((i : Int) + 1) = .int .i64 (i' : Nat) ∧ a < i' ∧ i' ≤ b + 1 ∧ dk'.size = N ∧
            At E32 w blk off dk' (wr.drewN q) ∧ insOuter ltInt a b i' dk' = insertionSort ltInt d a b) := fun hs q =>
          ⟨i + 1, dj, by go_num, by omega, by omega, hsj, At.drawn AT2.out q,
            by rw [← HO.out, insOuter_go _ _ _ _ _ hlt, ← HI.out, insInner_stop _ _ _ _ (by rw [← HG.out, ← HG.out]; exact hs)]⟩
        go_wp2
        by_cases hja : a < j
        · have hjaz : (a : Int) < (j : Int) := by omega
          go_quiet (first | (go_at_call 28; refine Calls.quiet_of_same (Yba.less32 _ _ _)))
          go_wp2
          · have hl : ltInt (G j) (G (j - 1)) = true := by assumption
            go_region
            all_goals go_wp2
            go_roundw
            case rel =>
              exact ⟨j - 1, swp dj j (j - 1), by congr 1; omega, by omega, by omega, by rw [size_swp]; exact hsj,
                At.swap AT2.out hblk (nq + 1) j (j - 1) (by omega) (by omega) (HG.out _) (HG.out _),
                by rw [← HI.out, insInner_go ltInt a j dj hja (by rw [← HG.out, ← HG.out]; exact hl)]⟩
            case measure => simp [intOf]; omega
          · have hl : ltInt (G j) (G (j - 1)) = false := by assumption
            go_roundw
            case rel => exact OUT.out (Or.inr hl) nq
            case measure => simp [intOf]; omega
        · go_quiet (first | (go_at_call 28; refine Calls.quiet_of_same (Yba.less32 _ _ _)))
          go_wp2
          go_roundw
          case rel => exact OUT.out (Or.inl (by omega)) nq
          case measure => simp [intOf]; omega
    · go_wp2
      go_end0
      exact ⟨rfl, by rw [← HO.out, insOuter_stop _ _ _ _ _ hlt]; exact AT.out⟩
end Go.Proofs.Ybulkzhy

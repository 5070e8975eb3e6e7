/-
  slices.Sort[[]int32]: the row holds the sorted list; nothing else turns but draws and new blocks.
-/
import Derived.Test.YbulkzhyPdq32
namespace Go.Proofs.Ybulkzhy
open Go.RowKit Go.Sort
set_option linter.unusedVariables false

set_option maxHeartbeats 1000000 in
theorem Yba.sort32 (blk off cap N : Nat) (d : Array Int) (w : World) (hH : Holds E32 w blk off d) (hN : d.size = N) (hblk : blk < w.heap.size) (hsz : N < 4611686018427387904) :
    Calls Yba.prog 14 #[.slice (some ⟨blk, off, none⟩) N cap] w fun e w' => e = .returned (.tuple #[]) ∧ At E32 w blk off (sort ltInt d) w' := by
  have hk : bitsLen N ≤ 62 := (bitsLen_le_iff N 62).2 (by omega)
  have hc := Yba.pdq32 (N + 1) blk off cap N 0 N (bitsLen N) d w (by omega) hH hN hblk (by omega) (Nat.le_refl _) hsz (by omega) (Or.inl rfl)
  have HF : Hid (sort ltInt d = pdq ltInt d 0 N (bitsLen N) true true) := by show sort ltInt d = _; unfold Go.Sort.sort; rw [hN]
  clear hH
  go_enter Yba.func14, Yba.ntmps14
  go_wp2_with (first
    | (go_at_call 20; refine (Yba.len20 N hsz _).mono ?_; rintro e w1 ⟨rfl, rfl⟩)
    | (go_at_call 19; refine hc.mono ?_; rintro e w1 ⟨rfl, hw1⟩))
  go_end0
  exact ⟨rfl, by rw [HF.out]; exact hw1⟩

/-- The nil slice. -/
theorem Yba.ins32nil (w : World) : Calls Yba.prog 22 #[.slice none 0 0, .int .i64 0, .int .i64 0] w fun e w' => e = .returned (.tuple #[]) ∧ w' = w := by
  go_enter Yba.func22, Yba.ntmps22
  go_wp2
  go_loopg [6] 0 (fun k s6 wr => s6 = .int .i64 1 ∧ w = wr)
  case atStart => exact ⟨rfl, rfl⟩
  case round =>
    obtain ⟨rfl, rfl⟩ := hrel
    go_wp2
    go_end0
    exact ⟨rfl, rfl⟩

set_option maxHeartbeats 1000000 in
set_option maxRecDepth 1000000 in
theorem Yba.pdq32nil (w : World) : Calls Yba.prog 19 #[.slice none 0 0, .int .i64 0, .int .i64 0, .int .i64 0] w fun e w' => e = .returned (.tuple #[]) ∧ w' = w := by
  go_enter Yba.func19, Yba.ntmps19
  go_wp2
  go_loopg [1, 2, 3, 8, 9] 0 (fun k s1 s2 s3 s8 s9 wr => s1 = .int .i64 0 ∧ s2 = .int .i64 0 ∧ s3 = .int .i64 0 ∧ s8 = .bool true ∧ s9 = .bool true ∧ w = wr)
  case atStart => exact ⟨rfl, rfl, rfl, rfl, rfl, rfl⟩
  case round =>
    obtain ⟨rfl, rfl, rfl, rfl, rfl, rfl⟩ := hrel
    go_wp2_with (go_at_call 22; refine (Yba.ins32nil _).mono ?_; rintro e w1 ⟨rfl, rfl⟩)
    (try simp only [Exit.inBlock, Exit.then]); refine bodyPost_ret (results_none rfl _ _ _) rfl ?_
    exact ⟨rfl, rfl⟩

set_option maxHeartbeats 1000000 in
theorem Yba.sort32nil (w : World) : Calls Yba.prog 14 #[.slice none 0 0] w fun e w' => e = .returned (.tuple #[]) ∧ w' = w := by
  have hl := Yba.len20 0 (by omega)
  have e0 : bitsLen 0 = 0 := rfl
  rw [e0] at hl
  go_enter Yba.func14, Yba.ntmps14
  go_wp2_with (first
    | (go_at_call 20; refine (hl _).mono ?_; rintro e w1 ⟨rfl, rfl⟩)
    | (go_at_call 19; refine (Yba.pdq32nil _).mono ?_; rintro e w1 ⟨rfl, rfl⟩))
  go_end0
  exact ⟨rfl, rfl⟩

/-- What sorting is: a sorted list of the same items. -/
theorem sort32_facts (d : Array Int) : (sort ltInt d).size = d.size ∧ (sort ltInt d).toList.Perm d.toList ∧ ∀ i j, i < j → j < d.size → (sort ltInt d)[i]! ≤ (sort ltInt d)[j]! := by
  obtain ⟨p, s⟩ := sort_sorts ltInt swo_ltInt d
  refine ⟨p.1, ?_, fun i j hij hj => ?_⟩
  · have := p.2.2
    rw [Array.extract_size] at this
    have e : (sort ltInt d).extract 0 d.size = sort ltInt d := by rw [← p.1]; exact Array.extract_size
    rwa [e] at this
  · have := s i j (Nat.zero_le _) hij hj
    have h2 : ¬ (sort ltInt d)[j]! < (sort ltInt d)[i]! := of_decide_eq_false this
    omega
end Go.Proofs.Ybulkzhy

/-
  slices.nextPowerOfTwo, (*slices.xorshift).Next, bits.Len at this dump.
-/
import Derived.Test.YbulkzhyBits
import Derived.Test.YbulkzhyChoose32
import Derived.Sort.Walk7a
namespace Go.Proofs.Ybulkzhy
open Go.RowKit Go.Sort
set_option linter.unusedVariables false

theorem Yba.len20 (n : Nat) (hn : n < 4611686018427387904) (w : World) : Calls Yba.prog 20 #[.int .u64 (n : Int)] w fun e w' => e = .returned (.int .i64 (bitsLen n : Nat)) ∧ w' = w := by
  have h := Any.bits_Len Yba.sl125 (n : Int) w (by omega) (by omega)
  rwa [Int.toNat_natCast, bitLen_eq _ (by omega)] at h

theorem Yba.npow (n : Nat) (hn : n < 4611686018427387904) (w : World) : Calls Yba.prog 42 #[.int .i64 n] w fun e w' => e = .returned (.int .u64 ((1 <<< bitsLen n : Nat) : Int)) ∧ w' = w := by
  have hk : bitsLen n ≤ 62 := (bitsLen_le_iff n 62).2 (by omega)
  have hp := wrap_two_pow (bitsLen n) hk
  go_enter Yba.func42, Yba.ntmps42
  go_wp2_with (go_at_call 20; refine (Yba.len20 n hn _).mono ?_; rintro e w' ⟨rfl, rfl⟩)
  go_ret
  exact ⟨rfl, rfl⟩

theorem Yba.next43 (g X : Nat) (hX : X < 18446744073709551616) (w : World) (hc : w.cell? ⟨g, 0, none⟩ = some (.int .u64 X)) (hf : w.frozen? ⟨g, 0, none⟩ = false) :
    Calls Yba.prog 43 #[.pointer (some ⟨g, 0, none⟩)] w fun e w' => e = .returned (.int .u64 (xorNextN X : Nat)) ∧ w' = (w.setCell ⟨g, 0, none⟩ (.int .u64 (xorNextN X : Nat))).drewN 3 := by
  obtain ⟨A, hA⟩ : ∃ A : Nat, A = X ^^^ (X * 8192 % 18446744073709551616) := ⟨_, rfl⟩
  obtain ⟨B, hB⟩ : ∃ B : Nat, B = A ^^^ (A / 128) := ⟨_, rfl⟩
  obtain ⟨C, hC⟩ : ∃ C : Nat, C = B ^^^ (B * 131072 % 18446744073709551616) := ⟨_, rfl⟩
  have lA : A < 18446744073709551616 := by rw [hA]; exact Nat.xor_lt_two_pow (n := 64) (by omega) (by omega)
  have lB : B < 18446744073709551616 := by rw [hB]; exact Nat.xor_lt_two_pow (n := 64) (by omega) (by omega)
  have s1 : bits .xor .u64 (X : Int) (IntKind.u64.wrap ((X : Int) * 8192)) = (A : Int) := by
    rw [IntKind.wrap_u64, show ((X : Int) * 8192 % 18446744073709551616) = ((X * 8192 % 18446744073709551616 : Nat) : Int) by omega, bits_xor_u64_nat _ _ hX (by omega), hA]
  have s2 : bits .xor .u64 (A : Int) ((A : Int) / 128) = (B : Int) := by
    rw [show ((A : Int) / 128) = ((A / 128 : Nat) : Int) by omega, bits_xor_u64_nat _ _ lA (by omega), hB]
  have s3 : bits .xor .u64 (B : Int) (IntKind.u64.wrap ((B : Int) * 131072)) = (C : Int) := by
    rw [IntKind.wrap_u64, show ((B : Int) * 131072 % 18446744073709551616) = ((B * 131072 % 18446744073709551616 : Nat) : Int) by omega, bits_xor_u64_nat _ _ lB (by omega), hC]
  have hv : xorNextN X = C := by unfold xorNextN; simp only []; rw [← hA, ← hB, ← hC]
  rw [hv]
  clear hA hB hC hv
  have hss : ∀ v v', (w.setCell ⟨g, 0, none⟩ v).setCell ⟨g, 0, none⟩ v' = w.setCell ⟨g, 0, none⟩ v' := setCell_setCell w g 0
  go_enter Yba.func43, Yba.ntmps43
  go_wp2
  go_region
  all_goals go_wp2
  all_goals go_region
  all_goals go_wp2
  all_goals go_region
  all_goals go_wp2
  go_ret
  exact ⟨rfl, rfl⟩
end Go.Proofs.Ybulkzhy

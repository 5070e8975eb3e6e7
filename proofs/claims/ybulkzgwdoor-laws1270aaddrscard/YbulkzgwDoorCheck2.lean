/-
  zzs1270acheck: true at the address that the number stands for.
-/
import Derived.Test.YbulkzgwDoorCheck
namespace Go.Proofs.YbulkzgwDoor
open Go.RowKit
set_option linter.unusedVariables false

/-- The sixteen bytes of the address of x. -/
def bytesX (x : Int) : Array Value := #[.int .u8 0, .int .u8 0, .int .u8 0, .int .u8 0, .int .u8 0, .int .u8 0, .int .u8 0, .int .u8 0, .int .u8 0, .int .u8 0, .int .u8 255, .int .u8 255,
    .int .u8 (x / 16777216), .int .u8 (x / 65536 % 256), .int .u8 (x / 256 % 256), .int .u8 (x % 256)]

theorem bytesX_zero (x : Int) (k : Nat) (h : k < 10) : (bytesX x)[k]? = some (.int .u8 0) := by
  match k, h with
  | 0, _ => rfl
  | 1, _ => rfl
  | 2, _ => rfl
  | 3, _ => rfl
  | 4, _ => rfl
  | 5, _ => rfl
  | 6, _ => rfl
  | 7, _ => rfl
  | 8, _ => rfl
  | 9, _ => rfl

set_option maxRecDepth 100000 in
set_option maxHeartbeats 1000000 in
theorem check_any (x : Int) (z : Option Addr) (w : World) (h0 : 0 ≤ x) (h1 : x ≤ 4294967295) :
    Calls Ybad.prog 7 #[.agg #[.int .u64 0, .int .u64 (281470681743360 + x), .pointer z], .int .u32 x] w fun e w' => e = .returned (.bool true) ∧ Below w.heap.size w w' := by
  go_enter Ybad.func7, Ybad.ntmps7
  go_wp2_with fail
  refine (as16 0 (281470681743360 + x) z _ (by omega) (by omega) (by omega) (by omega)).mono ?_
  rw [bytes16_at x h0 h1]
  rintro e w1 ⟨rfl, hb⟩
  have hbw : Below w.heap.size w w1 := ((Below.refl _ _).alloc (Nat.le_refl _) _).trans (hb.mono (by simp))
  clear hb
  go_wp2_with fail
  obtain ⟨W, hW⟩ : ∃ W : World, w1.alloc (.cells (bytesX x) 48) = W := ⟨_, rfl⟩
  have hc : ∀ k, W.cell? ⟨w1.heap.size, k, none⟩ = (bytesX x)[k]? := fun k => by rw [← hW, World.cell?_alloc_at _ _ _ _ rfl]
  have cz : ∀ k, k < 10 → W.cell? ⟨w1.heap.size, k, none⟩ = some (.int .u8 0) := fun k hk => (hc k).trans (bytesX_zero x k hk)
  have c10 : W.cell? ⟨w1.heap.size, 10, none⟩ = some (.int .u8 255) := hc 10
  have c11 : W.cell? ⟨w1.heap.size, 11, none⟩ = some (.int .u8 255) := hc 11
  have c12 : W.cell? ⟨w1.heap.size, 12, none⟩ = some (.int .u8 (x / 16777216)) := hc 12
  have c13 : W.cell? ⟨w1.heap.size, 13, none⟩ = some (.int .u8 (x / 65536 % 256)) := hc 13
  have c14 : W.cell? ⟨w1.heap.size, 14, none⟩ = some (.int .u8 (x / 256 % 256)) := hc 14
  have c15 : W.cell? ⟨w1.heap.size, 15, none⟩ = some (.int .u8 (x % 256)) := hc 15
  have hsz : w1.heap.size < W.heap.size := by rw [← hW]; simp
  have hbW : Below w.heap.size w W := by rw [← hW]; exact hbw.alloc hbw.size _
  have e32 : x / 16777216 * 16777216 + x / 65536 % 256 * 65536 + x / 256 % 256 * 256 + x % 256 = x := by omega
  have G := get32 (x / 16777216) (x / 65536 % 256) (x / 256 % 256) (x % 256) w1.heap.size 12 4 W.drew (by omega) (by omega) (by omega) (by omega) hsz c12 c13 c14 c15
  rw [e32] at G
  unfold bytesX at hW
  rw [hW]
  have HG : Hid (Calls Ybad.prog 13 #[.agg #[], .slice (some ⟨w1.heap.size, 12, none⟩) 4 4] W.drew fun e w' => e = .returned (.int .u32 x) ∧ ∃ n, w' = (W.drew.alloc (.cells #[] 44)).drewN n) := G
  have HB : Hid (Below w.heap.size w W) := hbW
  clear hW hc hbw hbW G c12 c13 c14 c15 e32
  go_loop [6] (fun i => ∃ k : Nat, k ≤ 10 ∧ i = .int .i64 k) (fun i => 10 - (intOf i).toNat)
  case atStart => exact ⟨0, by omega, rfl⟩
  case round =>
    obtain ⟨k, hk, rfl⟩ := hrel
    by_cases hlt : k < 10
    · have ck := cz k hlt
      clear cz
      go_wp2
      go_round
      case rel => exact ⟨k + 1, by omega, by go_num⟩
      case measure => simp [intOf]; omega
    · clear cz
      go_wp2
      go_region_with (go_at_call 13; refine HG.out.mono ?_; rintro e w' ⟨rfl, n, rfl⟩)
      go_wp2
      go_ret
      exact ⟨by simp [Act.put], below_drewN (HB.out.alloc HB.out.size _) _⟩
end Go.Proofs.YbulkzgwDoor

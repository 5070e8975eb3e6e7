/-
  zzs1270acheck and what it calls: As16, BEPutUint64, Uint32.
-/
import Derived.Test.YbulkzgwDoorAddr
namespace Go.Proofs.YbulkzgwDoor
open Go.RowKit
set_option linter.unusedVariables false

set_option maxHeartbeats 400000 in
theorem put64 (v : Int) (b o cap : Nat) (w : World) (h0 : 0 ≤ v) (h1 : v ≤ 18446744073709551615)
    (c0 : w.cell? ⟨b, o, none⟩ = some (.int .u8 0)) (c1 : w.cell? ⟨b, o + 1, none⟩ = some (.int .u8 0)) (c2 : w.cell? ⟨b, o + 2, none⟩ = some (.int .u8 0)) (c3 : w.cell? ⟨b, o + 3, none⟩ = some (.int .u8 0))
    (c4 : w.cell? ⟨b, o + 4, none⟩ = some (.int .u8 0)) (c5 : w.cell? ⟨b, o + 5, none⟩ = some (.int .u8 0)) (c6 : w.cell? ⟨b, o + 6, none⟩ = some (.int .u8 0)) (c7 : w.cell? ⟨b, o + 7, none⟩ = some (.int .u8 0))
    (f : ∀ j, w.frozen? ⟨b, j, none⟩ = false) :
    Calls Ybad.prog 16 #[.slice (some ⟨b, o, none⟩) 8 cap, .int .u64 v] w fun e w' => e = .returned (.tuple #[]) ∧
      w' = (((((((w.setCell ⟨b, o, none⟩ (.int .u8 (v / 72057594037927936))).setCell ⟨b, o + 1, none⟩ (.int .u8 (v / 281474976710656 % 256))).setCell ⟨b, o + 2, none⟩ (.int .u8 (v / 1099511627776 % 256))).setCell ⟨b, o + 3, none⟩ (.int .u8 (v / 4294967296 % 256))).setCell ⟨b, o + 4, none⟩ (.int .u8 (v / 16777216 % 256))).setCell ⟨b, o + 5, none⟩ (.int .u8 (v / 65536 % 256))).setCell ⟨b, o + 6, none⟩ (.int .u8 (v / 256 % 256))).setCell ⟨b, o + 7, none⟩ (.int .u8 (v % 256)) := by
  go_enter Ybad.func16, Ybad.ntmps16
  go_wp2
  go_end0
  exact ⟨rfl, rfl⟩

/-- The sixteen bytes of two words, the greatest first. -/
def bytes16 (hi lo : Int) : Array Value := #[.int .u8 (hi / 72057594037927936), .int .u8 (hi / 281474976710656 % 256), .int .u8 (hi / 1099511627776 % 256), .int .u8 (hi / 4294967296 % 256), .int .u8 (hi / 16777216 % 256), .int .u8 (hi / 65536 % 256), .int .u8 (hi / 256 % 256), .int .u8 (hi % 256),
  .int .u8 (lo / 72057594037927936), .int .u8 (lo / 281474976710656 % 256), .int .u8 (lo / 1099511627776 % 256), .int .u8 (lo / 4294967296 % 256), .int .u8 (lo / 16777216 % 256), .int .u8 (lo / 65536 % 256), .int .u8 (lo / 256 % 256), .int .u8 (lo % 256)]

set_option maxRecDepth 100000 in
set_option maxHeartbeats 1000000 in
theorem as16 (hi lo : Int) (z : Option Addr) (w : World) (h0 : 0 ≤ hi) (h1 : hi ≤ 18446744073709551615) (l0 : 0 ≤ lo) (l1 : lo ≤ 18446744073709551615) :
    Calls Ybad.prog 12 #[.agg #[.int .u64 hi, .int .u64 lo, .pointer z]] w fun e w' => e = .returned (.agg (bytes16 hi lo)) ∧ Below w.heap.size w w' := by
  go_enter Ybad.func12, Ybad.ntmps12
  go_wp2
  go_region_with (go_at_call 16; refine (put64 hi (w.heap.size + 1) 0 16 _ h0 h1 (by simp [go_sem]) (by simp [go_sem]) (by simp [go_sem]) (by simp [go_sem]) (by simp [go_sem]) (by simp [go_sem]) (by simp [go_sem]) (by simp [go_sem]) (by intro j; simp [go_sem])).mono ?_; rintro e w' ⟨rfl, rfl⟩)
  go_wp2
  go_region_with (go_at_call 16; refine (put64 lo (w.heap.size + 1) 8 8 _ l0 l1 (by simp [go_sem]) (by simp [go_sem]) (by simp [go_sem]) (by simp [go_sem]) (by simp [go_sem]) (by simp [go_sem]) (by simp [go_sem]) (by simp [go_sem]) (by intro j; simp [go_sem])).mono ?_; rintro e w' ⟨rfl, rfl⟩)
  go_wp2
  refine bodyPost_ret (v := .agg (bytes16 hi lo)) ?_ rfl ⟨rfl, ?_⟩
  · simp [results, Ybad.results12, go_sem, bytes16]
  · exact ((((Below.refl _ _).alloc (Nat.le_refl _) _).alloc (by simp) _).drew).drew

theorem bytes16_at (x : Int) (h0 : 0 ≤ x) (h1 : x ≤ 4294967295) : bytes16 0 (281470681743360 + x) = #[.int .u8 0, .int .u8 0, .int .u8 0, .int .u8 0, .int .u8 0, .int .u8 0, .int .u8 0, .int .u8 0, .int .u8 0, .int .u8 0, .int .u8 255, .int .u8 255,
    .int .u8 (x / 16777216), .int .u8 (x / 65536 % 256), .int .u8 (x / 256 % 256), .int .u8 (x % 256)] := by
  unfold bytes16
  rw [show (281470681743360 + x) / 72057594037927936 = 0 by omega, show (281470681743360 + x) / 281474976710656 % 256 = 0 by omega, show (281470681743360 + x) / 1099511627776 % 256 = 255 by omega, show (281470681743360 + x) / 4294967296 % 256 = 255 by omega,
    show (281470681743360 + x) / 16777216 % 256 = x / 16777216 by omega, show (281470681743360 + x) / 65536 % 256 = x / 65536 % 256 by omega, show (281470681743360 + x) / 256 % 256 = x / 256 % 256 by omega, show (281470681743360 + x) % 256 = x % 256 by omega]
  simp

set_option maxHeartbeats 1000000 in
theorem get32 (y0 y1 y2 y3 : Int) (b o cap : Nat) (w : World) (h0 : 0 ≤ y0 ∧ y0 ≤ 255) (h1 : 0 ≤ y1 ∧ y1 ≤ 255) (h2 : 0 ≤ y2 ∧ y2 ≤ 255) (h3 : 0 ≤ y3 ∧ y3 ≤ 255) (hb : b < w.heap.size)
    (c0 : w.cell? ⟨b, o, none⟩ = some (.int .u8 y0)) (c1 : w.cell? ⟨b, o + 1, none⟩ = some (.int .u8 y1)) (c2 : w.cell? ⟨b, o + 2, none⟩ = some (.int .u8 y2)) (c3 : w.cell? ⟨b, o + 3, none⟩ = some (.int .u8 y3)) :
    Calls Ybad.prog 13 #[.agg #[], .slice (some ⟨b, o, none⟩) 4 cap] w fun e w' => e = .returned (.int .u32 (y0 * 16777216 + y1 * 65536 + y2 * 256 + y3)) ∧ ∃ n, w' = (w.alloc (.cells #[] 44)).drewN n := by
  have J : Hid _ := join32i y0 y1 y2 y3 h0 h1 h2 h3
  go_enter Ybad.func13, Ybad.ntmps13
  go_wp2
  go_quiet (fail)
  go_wp2
  go_ret
  refine ⟨?_, _, rfl⟩
  rw [← J.out]
  rfl
end Go.Proofs.YbulkzgwDoor

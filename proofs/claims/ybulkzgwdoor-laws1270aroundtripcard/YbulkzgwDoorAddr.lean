/-
  (ID).Addr and what it calls.
-/
import Derived.Test.YbulkzgwDoorRows
import Derived.WalkKit
import Derived.WalkSpells
import Derived.WalkLawsBesides
import Derived.Deep.RegionHeld3
import Derived.Deep.QuietTactic
import Derived.BigQuiet
import Derived.Deep.OwnRows
namespace Go.Proofs.YbulkzgwDoor
open Go.RowKit
set_option linter.unusedVariables false

theorem or64 (k : Nat) (a b : Nat) (ha : a < 18446744073709551616) (hb : b < 18446744073709551616) (h : a % 2 ^ k = 0) (hy : b < 2 ^ k) : bits .or .u64 (a : Int) (b : Int) = ((a + b : Nat) : Int) := by
  rw [u64_or_nat a b ha hb, nat_join k a b h hy]
theorem or32 (k : Nat) (a b : Nat) (ha : a < 4294967296) (hb : b < 4294967296) (h : b % 2 ^ k = 0) (hy : a < 2 ^ k) : bits .or .u32 (a : Int) (b : Int) = ((b + a : Nat) : Int) := by
  rw [u32_or_nat a b ha hb, Nat.or_comm, nat_join k b a h hy]

/-- The low word of an IPv4 address: ::ffff, then the four bytes. -/
theorem join4 (y0 y1 y2 y3 : Nat) (h0 : y0 ≤ 255) (h1 : y1 ≤ 255) (h2 : y2 ≤ 255) (h3 : y3 ≤ 255) :
    bits .or .u64 (bits .or .u64 (bits .or .u64 (bits .or .u64 281470681743360 ((y0 : Int) * 16777216)) ((y1 : Int) * 65536)) ((y2 : Int) * 256)) (y3 : Int) =
      281470681743360 + (y0 : Int) * 16777216 + (y1 : Int) * 65536 + (y2 : Int) * 256 + y3 := by
  have e0 : bits .or .u64 281470681743360 ((y0 : Int) * 16777216) = ((281470681743360 + y0 * 16777216 : Nat) : Int) := by
    have := or64 32 281470681743360 (y0 * 16777216) (by omega) (by omega) (by decide) (by omega)
    rw [← this]; simp
  have e1 : bits .or .u64 ((281470681743360 + y0 * 16777216 : Nat) : Int) ((y1 : Int) * 65536) = ((281470681743360 + y0 * 16777216 + y1 * 65536 : Nat) : Int) := by
    have := or64 24 (281470681743360 + y0 * 16777216) (y1 * 65536) (by omega) (by omega) (by omega) (by omega)
    rw [← this]; simp
  have e2 : bits .or .u64 ((281470681743360 + y0 * 16777216 + y1 * 65536 : Nat) : Int) ((y2 : Int) * 256) = ((281470681743360 + y0 * 16777216 + y1 * 65536 + y2 * 256 : Nat) : Int) := by
    have := or64 16 (281470681743360 + y0 * 16777216 + y1 * 65536) (y2 * 256) (by omega) (by omega) (by omega) (by omega)
    rw [← this]; simp
  have e3 : bits .or .u64 ((281470681743360 + y0 * 16777216 + y1 * 65536 + y2 * 256 : Nat) : Int) (y3 : Int) = ((281470681743360 + y0 * 16777216 + y1 * 65536 + y2 * 256 + y3 : Nat) : Int) :=
    or64 8 (281470681743360 + y0 * 16777216 + y1 * 65536 + y2 * 256) y3 (by omega) (by omega) (by omega) (by omega)
  rw [e0, e1, e2, e3]
  omega

/-- A number put together anew out of its four bytes, as Uint32 does it. -/
theorem join32 (y0 y1 y2 y3 : Nat) (h0 : y0 ≤ 255) (h1 : y1 ≤ 255) (h2 : y2 ≤ 255) (h3 : y3 ≤ 255) :
    bits .or .u32 (bits .or .u32 (bits .or .u32 (y3 : Int) ((y2 : Int) * 256)) ((y1 : Int) * 65536)) ((y0 : Int) * 16777216) =
      (y0 : Int) * 16777216 + (y1 : Int) * 65536 + (y2 : Int) * 256 + y3 := by
  have e0 : bits .or .u32 (y3 : Int) ((y2 : Int) * 256) = ((y2 * 256 + y3 : Nat) : Int) := by
    have := or32 8 y3 (y2 * 256) (by omega) (by omega) (by omega) (by omega)
    rw [← this]; simp
  have e1 : bits .or .u32 ((y2 * 256 + y3 : Nat) : Int) ((y1 : Int) * 65536) = ((y1 * 65536 + (y2 * 256 + y3) : Nat) : Int) := by
    have := or32 16 (y2 * 256 + y3) (y1 * 65536) (by omega) (by omega) (by omega) (by omega)
    rw [← this]; simp
  have e2 : bits .or .u32 ((y1 * 65536 + (y2 * 256 + y3) : Nat) : Int) ((y0 : Int) * 16777216) = ((y0 * 16777216 + (y1 * 65536 + (y2 * 256 + y3)) : Nat) : Int) := by
    have := or32 24 (y1 * 65536 + (y2 * 256 + y3)) (y0 * 16777216) (by omega) (by omega) (by omega) (by omega)
    rw [← this]; simp
  rw [e0, e1, e2]
  omega

theorem join4i (y0 y1 y2 y3 : Int) (h0 : 0 ≤ y0 ∧ y0 ≤ 255) (h1 : 0 ≤ y1 ∧ y1 ≤ 255) (h2 : 0 ≤ y2 ∧ y2 ≤ 255) (h3 : 0 ≤ y3 ∧ y3 ≤ 255) :
    bits .or .u64 (bits .or .u64 (bits .or .u64 (bits .or .u64 281470681743360 (y0 * 16777216)) (y1 * 65536)) (y2 * 256)) y3 = 281470681743360 + y0 * 16777216 + y1 * 65536 + y2 * 256 + y3 := by
  obtain ⟨n0, rfl⟩ := Int.eq_ofNat_of_zero_le h0.1
  obtain ⟨n1, rfl⟩ := Int.eq_ofNat_of_zero_le h1.1
  obtain ⟨n2, rfl⟩ := Int.eq_ofNat_of_zero_le h2.1
  obtain ⟨n3, rfl⟩ := Int.eq_ofNat_of_zero_le h3.1
  exact join4 n0 n1 n2 n3 (by omega) (by omega) (by omega) (by omega)
theorem join32i (y0 y1 y2 y3 : Int) (h0 : 0 ≤ y0 ∧ y0 ≤ 255) (h1 : 0 ≤ y1 ∧ y1 ≤ 255) (h2 : 0 ≤ y2 ∧ y2 ≤ 255) (h3 : 0 ≤ y3 ∧ y3 ≤ 255) :
    bits .or .u32 (bits .or .u32 (bits .or .u32 y3 (y2 * 256)) (y1 * 65536)) (y0 * 16777216) = y0 * 16777216 + y1 * 65536 + y2 * 256 + y3 := by
  obtain ⟨n0, rfl⟩ := Int.eq_ofNat_of_zero_le h0.1
  obtain ⟨n1, rfl⟩ := Int.eq_ofNat_of_zero_le h1.1
  obtain ⟨n2, rfl⟩ := Int.eq_ofNat_of_zero_le h2.1
  obtain ⟨n3, rfl⟩ := Int.eq_ofNat_of_zero_le h3.1
  exact join32 n0 n1 n2 n3 (by omega) (by omega) (by omega) (by omega)

/-- The address that an identity's number stands for, as a value: the handle is whatever z4 holds. -/
def addrV (x : Int) (z : Option Addr) : Value := .agg #[.int .u64 0, .int .u64 (281470681743360 + x), .pointer z]

set_option maxHeartbeats 400000 in
theorem put32 (x : Int) (b : Nat) (o0 o1 o2 o3 : Int) (w : World) (h0 : 0 ≤ x) (h1 : x ≤ 4294967295) (hb : b < w.heap.size)
    (c0 : w.cell? ⟨b, 0, none⟩ = some (.int .u8 o0)) (c1 : w.cell? ⟨b, 1, none⟩ = some (.int .u8 o1)) (c2 : w.cell? ⟨b, 2, none⟩ = some (.int .u8 o2)) (c3 : w.cell? ⟨b, 3, none⟩ = some (.int .u8 o3))
    (f0 : w.frozen? ⟨b, 0, none⟩ = false) (f1 : w.frozen? ⟨b, 1, none⟩ = false) (f2 : w.frozen? ⟨b, 2, none⟩ = false) (f3 : w.frozen? ⟨b, 3, none⟩ = false) :
    Calls Ybad.prog 10 #[.agg #[], .slice (some ⟨b, 0, none⟩) 4 4, .int .u32 x] w fun e w' => e = .returned (.tuple #[]) ∧
      w' = ((((w.setCell ⟨b, 0, none⟩ (.int .u8 (x / 16777216))).setCell ⟨b, 1, none⟩ (.int .u8 (x / 65536 % 256))).setCell ⟨b, 2, none⟩ (.int .u8 (x / 256 % 256))).setCell ⟨b, 3, none⟩ (.int .u8 (x % 256))).alloc (.cells #[] 44) := by
  go_enter Ybad.func10, Ybad.ntmps10
  go_wp2
  go_end0
  exact ⟨rfl, rfl⟩

set_option maxHeartbeats 400000 in
theorem from4 (y0 y1 y2 y3 : Int) (z : Option Addr) (w : World) (h0 : 0 ≤ y0 ∧ y0 ≤ 255) (h1 : 0 ≤ y1 ∧ y1 ≤ 255) (h2 : 0 ≤ y2 ∧ y2 ≤ 255) (h3 : 0 ≤ y3 ∧ y3 ≤ 255) (hz : w.cell? ⟨1, 0, none⟩ = some (.pointer z)) (hg : 1 < w.heap.size) :
    Calls Ybad.prog 11 #[.agg #[.int .u8 y0, .int .u8 y1, .int .u8 y2, .int .u8 y3]] w fun e w' => e = .returned (addrV (y0 * 16777216 + y1 * 65536 + y2 * 256 + y3) z) ∧ Below w.heap.size w w' := by
  have hg0 : 0 < w.heap.size := by omega
  have J : Hid _ := join4i y0 y1 y2 y3 h0 h1 h2 h3
  go_enter Ybad.func11, Ybad.ntmps11
  go_wp2
  rw [J.out]
  refine bodyPost_ret (v := .agg #[.int .u64 0, .int .u64 (281470681743360 + y0 * 16777216 + y1 * 65536 + y2 * 256 + y3), .pointer z]) ?_ rfl ⟨?_, ?_⟩
  · simp [results, Ybad.results11, go_sem]
  · unfold addrV
    rw [show 281470681743360 + (y0 * 16777216 + y1 * 65536 + y2 * 256 + y3) = 281470681743360 + y0 * 16777216 + y1 * 65536 + y2 * 256 + y3 by omega]
  · exact ((Below.refl _ _).alloc (Nat.le_refl _) _).alloc (by simp) _

set_option maxHeartbeats 400000 in
theorem addr_any (x : Int) (z : Option Addr) (w : World) (h0 : 0 ≤ x) (h1 : x ≤ 4294967295) (hz : w.cell? ⟨1, 0, none⟩ = some (.pointer z)) (hg : 1 < w.heap.size) :
    Calls Ybad.prog 5 #[.int .u32 x] w fun e w' => e = .returned (addrV x z) ∧ Below w.heap.size w w' := by
  go_enter Ybad.func5, Ybad.ntmps5
  go_wp2
  go_region_with (go_at_call 10; refine (put32 x (w.heap.size + 1) 0 0 0 0 _ h0 h1 (by simp) (by simp [go_sem]) (by simp [go_sem]) (by simp [go_sem]) (by simp [go_sem]) (by simp [go_sem]) (by simp [go_sem]) (by simp [go_sem]) (by simp [go_sem])).mono ?_; rintro e w' ⟨rfl, rfl⟩)
  go_wp2_with fail
  have e : x / 16777216 * 16777216 + x / 65536 % 256 * 65536 + x / 256 % 256 * 256 + x % 256 = x := by omega
  have F := from4 (x / 16777216) (x / 65536 % 256) (x / 256 % 256) (x % 256) z (((w.alloc (.cells #[.int .u64 0, .int .u64 0, .pointer none] 32)).alloc
    (.cells #[.int .u8 (x / 16777216), .int .u8 (x / 65536 % 256), .int .u8 (x / 256 % 256), .int .u8 (x % 256)] 42)).alloc (.cells #[] 44)).drew (by omega) (by omega) (by omega) (by omega)
    (by have hg0 : 0 < w.heap.size := by omega
        simp [go_sem, hz, hg, hg0]) (by simp)
  rw [e] at F
  refine F.mono ?_
  rintro e1 w1 ⟨rfl, hb⟩
  clear F e
  have hsz : w.heap.size + 1 + 1 + 1 ≤ w1.heap.size := by have := hb.size; simpa using this
  have r : ∀ j, w1.cell? ⟨w.heap.size, j, none⟩ = (#[.int .u64 0, .int .u64 0, .pointer none] : Array Value)[j]? := fun j => by
    rw [hb.cell (p := ⟨w.heap.size, j, none⟩) (by simp; omega)]
    simp [go_sem]
  have r0 : w1.cell? ⟨w.heap.size, 0, none⟩ = some (.int .u64 0) := r 0
  have r1 : w1.cell? ⟨w.heap.size, 1, none⟩ = some (.int .u64 0) := r 1
  have r2 : w1.cell? ⟨w.heap.size, 2, none⟩ = some (.pointer none) := r 2
  have f : ∀ j, w1.frozen? ⟨w.heap.size, j, none⟩ = false := fun j => by
    rw [hb.frozen (p := ⟨w.heap.size, j, none⟩) (by simp; omega)]
    simp [go_sem]
  have hbw : Below w.heap.size w w1 := (((((Below.refl _ _).alloc (Nat.le_refl _) _).alloc (by simp) _).alloc (by simp; omega) _).drew).trans (hb.mono (by simp; omega))
  clear r hb hz
  unfold addrV
  go_wp2
  refine bodyPost_ret (v := .agg #[.int .u64 0, .int .u64 (281470681743360 + x), .pointer z]) ?_ rfl ⟨rfl, ?_⟩
  · simp [results, Ybad.results5, go_sem, r0, r1, r2]
  · exact ((hbw.setCell (Nat.le_refl _) _).setCell (Nat.le_refl _) _).setCell (Nat.le_refl _) _
theorem gz4 : Ybad.prog.globalNamed (Rows.lawS1270AAddrsRow.named.getD 1 "") = some 1 := by kernel_rfl
theorem tz4 : (Ybad.prog.globals[1]?).map (·.type) = some 30 := by kernel_rfl
end Go.Proofs.YbulkzgwDoor

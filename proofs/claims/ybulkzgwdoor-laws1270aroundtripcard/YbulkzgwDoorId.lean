/-
  IDOf and what it calls, at an address whose handle is z4's.
-/
import Derived.Test.YbulkzgwDoorCheck
import Derived.LaidEqlPtr
namespace Go.Proofs.YbulkzgwDoor
open Go.RowKit
set_option linter.unusedVariables false

theorem info62 : ∃ j, Ybad.prog.info? 62 = some j ∧ j.size ≠ 0 := by
  have h : (Ybad.prog.info? 62).map (fun i => decide (i.size ≠ 0)) = some true := by kernel_rfl
  obtain ⟨j, hj, hd⟩ := Option.map_eq_some_iff.1 h
  exact ⟨j, hj, by simpa using hd⟩

theorem eq28 (d : Nat) (z : Option Addr) (w : World) : (Op.equalIn (d + 1) 28 (.pointer z) (.pointer z)).run Ybad.prog w = .ok true w := by
  obtain ⟨j, hj, hs⟩ := info62
  cases z with
  | none => simp [Op.equalIn, run_underlying Ybad.underlying28]
  | some a => simp [Op.equalIn, run_underlying Ybad.underlying28, sizeOf, typeInfo, hj, run_sameAddr_same]

set_option maxHeartbeats 400000 in
theorem is4_any (h l : Int) (z : Option Addr) (w : World) (hz : w.cell? ⟨1, 0, none⟩ = some (.pointer z)) (hg : 1 < w.heap.size) :
    Calls Ybad.prog 9 #[.agg #[.int .u64 h, .int .u64 l, .pointer z]] w fun e w' => e = .returned (.bool true) ∧ w' = w.alloc (.cells #[.int .u64 h, .int .u64 l, .pointer z] 32) := by
  have hg0 : 0 < w.heap.size := by omega
  have he := eq28
  go_enter Ybad.func9, Ybad.ntmps9
  go_wp2
  go_ret
  exact ⟨rfl, rfl⟩

set_option maxHeartbeats 400000 in
theorem beput32 (x : Int) (b : Nat) (w : World) (h0 : 0 ≤ x) (h1 : x ≤ 4294967295)
    (c0 : w.cell? ⟨b, 0, none⟩ = some (.int .u8 0)) (c1 : w.cell? ⟨b, 1, none⟩ = some (.int .u8 0)) (c2 : w.cell? ⟨b, 2, none⟩ = some (.int .u8 0)) (c3 : w.cell? ⟨b, 3, none⟩ = some (.int .u8 0))
    (f : ∀ j, w.frozen? ⟨b, j, none⟩ = false) :
    Calls Ybad.prog 22 #[.slice (some ⟨b, 0, none⟩) 4 4, .int .u32 x] w fun e w' => e = .returned (.tuple #[]) ∧
      w' = (((w.setCell ⟨b, 0, none⟩ (.int .u8 (x / 16777216))).setCell ⟨b, 1, none⟩ (.int .u8 (x / 65536 % 256))).setCell ⟨b, 2, none⟩ (.int .u8 (x / 256 % 256))).setCell ⟨b, 3, none⟩ (.int .u8 (x % 256)) := by
  go_enter Ybad.func22, Ybad.ntmps22
  go_wp2
  go_end0
  exact ⟨rfl, rfl⟩

set_option maxHeartbeats 1000000 in
theorem as4_any (x : Int) (z : Option Addr) (w : World) (h0 : 0 ≤ x) (h1 : x ≤ 4294967295) (hz : w.cell? ⟨1, 0, none⟩ = some (.pointer z)) (hg : 1 < w.heap.size) :
    Calls Ybad.prog 15 #[.agg #[.int .u64 0, .int .u64 (281470681743360 + x), .pointer z]] w fun e w' => e = .returned (.agg #[.int .u8 (x / 16777216), .int .u8 (x / 65536 % 256), .int .u8 (x / 256 % 256), .int .u8 (x % 256)]) ∧ Below w.heap.size w w' := by
  have hg0 : 0 < w.heap.size := by omega
  have he := eq28
  have hx : IntKind.u32.wrap (281470681743360 + x) = x := by rw [IntKind.wrap_u32]; omega
  go_enter Ybad.func15, Ybad.ntmps15
  go_wp2
  go_region_with (go_at_call 22; refine (beput32 x (w.heap.size + 1) _ h0 h1 (by simp [go_sem]) (by simp [go_sem]) (by simp [go_sem]) (by simp [go_sem]) (by intro j; simp [go_sem])).mono ?_; rintro e w' ⟨rfl, rfl⟩)
  go_wp2
  refine bodyPost_ret (v := .agg #[.int .u8 (x / 16777216), .int .u8 (x / 65536 % 256), .int .u8 (x / 256 % 256), .int .u8 (x % 256)]) ?_ rfl ⟨rfl, ?_⟩
  · simp [results, Ybad.results15, go_sem]
  · exact (((Below.refl _ _).alloc (Nat.le_refl _) _).alloc (by simp) _).drew

set_option maxHeartbeats 1000000 in
theorem idof_any (x : Int) (z : Option Addr) (w : World) (h0 : 0 ≤ x) (h1 : x ≤ 4294967295) (hz : w.cell? ⟨1, 0, none⟩ = some (.pointer z)) (hg : 1 < w.heap.size) :
    Calls Ybad.prog 8 #[.agg #[.int .u64 0, .int .u64 (281470681743360 + x), .pointer z]] w fun e w' => e = .returned (.int .u32 x) ∧ Below w.heap.size w w' := by
  have hg0 : 0 < w.heap.size := by omega
  have old : ∀ o : Obj, (w.alloc o).cell? ⟨1, 0, none⟩ = some (.pointer z) := fun o => by rw [World.cell?_alloc_past _ _ _ hg]; exact hz
  go_enter Ybad.func8, Ybad.ntmps8
  go_wp2_with fail
  refine (is4_any 0 (281470681743360 + x) z _ (old _) (by simp; omega)).mono ?_
  rintro e w1 ⟨rfl, rfl⟩
  go_wp2_with fail
  have old2 : ∀ o o' : Obj, ((w.alloc o).alloc o').cell? ⟨1, 0, none⟩ = some (.pointer z) := fun o o' => by rw [World.cell?_alloc_past _ _ _ (by simp; omega)]; exact old o
  refine (as4_any x z _ h0 h1 (old2 _ _) (by simp)).mono ?_
  rintro e w2 ⟨rfl, hb⟩
  have hb2 : Below w.heap.size w w2 := (((Below.refl _ _).alloc (Nat.le_refl _) _).alloc (by simp) _).trans (hb.mono (by simp; omega))
  clear hb old old2
  have e32 : x / 16777216 * 16777216 + x / 65536 % 256 * 65536 + x / 256 % 256 * 256 + x % 256 = x := by omega
  have G := get32 (x / 16777216) (x / 65536 % 256) (x / 256 % 256) (x % 256) w2.heap.size 0 4 (w2.alloc (.cells #[.int .u8 (x / 16777216), .int .u8 (x / 65536 % 256), .int .u8 (x / 256 % 256), .int .u8 (x % 256)] 42)).drew (by omega) (by omega) (by omega) (by omega) (by simp)
    (by simp [go_sem]) (by simp [go_sem]) (by simp [go_sem]) (by simp [go_sem])
  rw [e32] at G
  have HG : Hid (Calls Ybad.prog 13 #[.agg #[], .slice (some ⟨w2.heap.size, 0, none⟩) 4 4] (w2.alloc (.cells #[.int .u8 (x / 16777216), .int .u8 (x / 65536 % 256), .int .u8 (x / 256 % 256), .int .u8 (x % 256)] 42)).drew fun e w' => e = .returned (.int .u32 x) ∧ ∃ n, w' = ((w2.alloc (.cells #[.int .u8 (x / 16777216), .int .u8 (x / 65536 % 256), .int .u8 (x / 256 % 256), .int .u8 (x % 256)] 42)).drew.alloc (.cells #[] 44)).drewN n) := G
  clear G e32
  go_wp2
  go_region_with (go_at_call 13; refine HG.out.mono ?_; rintro e w' ⟨rfl, n, rfl⟩)
  go_wp2
  go_ret
  exact ⟨by simp [Act.put], below_drewN ((hb2.alloc hb2.size _).alloc (by have := hb2.size; simp; omega) _) _⟩
end Go.Proofs.YbulkzgwDoor

/-
  LawS1270ARoundTrip, out of the contracts.
-/
import Derived.Test.YbulkzgwDoorRow
import Derived.Test.YbulkzgwDoorId
namespace Go.Proofs.YbulkzgwDoor
open Go.RowKit
set_option linter.unusedVariables false

set_option maxRecDepth 100000 in
set_option maxHeartbeats 400000 in
theorem lawB_long (a0 a1 : Option Addr) (n m c0 c1 : Nat) (ex : Int) (w : World) (hl : 1024 < n ∨ 1024 < m) (hn : n ≤ maxLen) (hm : m ≤ maxLen) :
    Calls Ybad.prog 4 #[.slice a0 n c0, .slice a1 m c1, .int .u8 ex] w fun e w' => e = .returned (.bool true) ∧ Below w.heap.size w w' := by
  unfold maxLen at hn hm
  by_cases h : 1024 < n
  · have hd : decide (1024 < (n : Int)) = true := by simp; omega
    go_enter Ybad.func4, Ybad.ntmps4
    go_wp2
    go_ret
    exact ⟨rfl, Below.refl _ _⟩
  · have hd : decide (1024 < (n : Int)) = false := by simp; omega
    have hd2 : decide (1024 < (m : Int)) = true := by simp; omega
    go_enter Ybad.func4, Ybad.ntmps4
    go_wp2
    go_ret
    exact ⟨rfl, Below.refl _ _⟩

/-- The slice that was handed in still holds its addresses. -/
theorem AppAt.dst {w wr : World} {base db ib g n m c : Nat} {z : Option Addr} {xs ys : List Int} (h : AppAt w wr base db ib g n m c z xs ys) (hn : xs.length = n) (i : Nat) (hi : i < n) :
    wr.cell? ⟨db, i * 3, none⟩ = some (.int .u64 0) ∧ wr.cell? ⟨db, i * 3 + 1, none⟩ = some (.int .u64 (281470681743360 + xs.getD i 0)) ∧ wr.cell? ⟨db, i * 3 + 2, none⟩ = some (.pointer z) := by
  have hl : i < xs.length := by omega
  refine ⟨h.old (i * 3) _ ?_, h.old (i * 3 + 1) _ ?_, h.old (i * 3 + 2) _ ?_⟩
  · have := flatA_get z xs i 0 hl (by omega); rw [Nat.add_zero] at this; rw [this]; rfl
  · rw [flatA_get z xs i 1 hl (by omega)]; rfl
  · rw [flatA_get z xs i 2 hl (by omega)]; rfl

theorem make_ex (n : Nat) (ex : Int) (hn : n ≤ 1024) (h : 0 ≤ ex ∧ ex ≤ 255) : ∃ c : Nat, n ≤ c ∧ c ≤ 2048 ∧ ∀ w : World, (Instr.makeSlice 23 (.int .i64 (n : Int)) (.int .i64 ((n : Int) + ex % 16))).run Ybad.prog w =
    .ok (.slice (some ⟨w.heap.size, 0, none⟩) n c) (w.alloc (.cells (madeCells #[.int .u64 0, .int .u64 0, .pointer none] (c * 3)) 32)) := by
  refine ⟨n + (ex % 16).toNat, by omega, by omega, fun w => ?_⟩
  have := run_make23 n (n + (ex % 16).toNat) (by omega) (by omega) w
  rw [show ((n + (ex % 16).toNat : Nat) : Int) = (n : Int) + ex % 16 by omega] at this
  exact this

set_option maxRecDepth 100000 in
set_option maxHeartbeats 4000000 in
theorem lawB_short (a0 a1 : Option Addr) (n m c0 c1 : Nat) (ex : Int) (hex : 0 ≤ ex ∧ ex ≤ 255) (xs ys : List Int) (z : Option Addr) (w : World) (hn : n ≤ 1024) (hm : m ≤ 1024) (hxl : xs.length = n) (hyl : ys.length = m)
    (hx : ∀ y ∈ xs, 0 ≤ y ∧ y ≤ 4294967295) (hy : ∀ y ∈ ys, 0 ≤ y ∧ y ≤ 4294967295) (hp0 : PreAt w a0 n xs) (hp1 : PreAt w a1 m ys) (hz : w.cell? ⟨1, 0, none⟩ = some (.pointer z)) (hg : 1 < w.heap.size) :
    Calls Ybad.prog 4 #[.slice a0 n c0, .slice a1 m c1, .int .u8 ex] w fun e w' => e = .returned (.bool true) ∧ Below w.heap.size w w' := by
  have hd : decide (1024 < (n : Int)) = false := by simp; omega
  have hd2 : decide (1024 < (m : Int)) = false := by simp; omega
  obtain ⟨cp, hcp, hcp2, hmk⟩ := make_ex n ex hn hex
  have hmk2 := run_make35 m (by omega)
  have Hxl : Hid (xs.length = n) := hxl
  have Hyl : Hid (ys.length = m) := hyl
  clear hxl hyl
  go_enter Ybad.func4, Ybad.ntmps4
  go_wp2_with fail
  have hrow0 := made32_row w cp z xs
  have hb0 : Below w.heap.size w (w.alloc (.cells (madeCells #[.int .u64 0, .int .u64 0, .pointer none] (cp * 3)) 32)) := (Below.refl _ _).alloc (Nat.le_refl _) _
  clear hmk
  go_loopw [38] (fun i wr => ∃ k : Nat, k ≤ n ∧ i = .int .i64 k ∧ wr.rowIs w.heap.size 32 (cp * 3) (rowK z xs k) ∧ Below w.heap.size w wr) (fun i _ => n - (intOf i).toNat)
  case atStart => exact ⟨0, Nat.zero_le _, rfl, hrow0, hb0⟩
  case round =>
    clear hrow0 hb0
    obtain ⟨k, hk, rfl, hrow, hB⟩ := hrel
    by_cases hlt : k < n
    · obtain ⟨b, off, ea, hbw, hc⟩ := hp0.below hB k hlt
      subst ea
      have hy1 : 0 ≤ xs.getD k 0 ∧ xs.getD k 0 ≤ 4294967295 := hx _ (by rw [List.getD_eq_getElem?_getD, List.getElem?_eq_getElem (by have := Hxl.out; omega)]; simp)
      have hzr : wr.cell? ⟨1, 0, none⟩ = some (.pointer z) := (hB.cell (p := ⟨1, 0, none⟩) hg).trans hz
      have hlay : ∀ w1 : World, Below wr.heap.size wr w1 → (layW w1 w.heap.size (k * 3) (281470681743360 + xs.getD k 0) z).rowIs w.heap.size 32 (cp * 3) (rowK z xs (k + 1)) ∧ Below w.heap.size w (layW w1 w.heap.size (k * 3) (281470681743360 + xs.getD k 0) z) := fun w1 h1 =>
        ⟨lay_row (hrow.of_block (h1.block _ hrow.lt)), layW_below (hB.trans (h1.mono (by have := hB.size; omega))) (Nat.le_refl _)⟩
      have HL : Hid (∀ w1 : World, Below wr.heap.size wr w1 → (layW w1 w.heap.size (k * 3) (281470681743360 + xs.getD k 0) z).rowIs w.heap.size 32 (cp * 3) (rowK z xs (k + 1)) ∧ Below w.heap.size w (layW w1 w.heap.size (k * 3) (281470681743360 + xs.getD k 0) z)) := hlay
      clear hlay
      generalize xs.getD k 0 = x at hc hy1 HL
      have hwr := hB.size
      have hrlt := hrow.lt
      have q0 : ∃ v, wr.cell? ⟨w.heap.size, k * 3, none⟩ = some v := ⟨_, hrow.cell (by omega)⟩
      have q1 : ∃ v, wr.cell? ⟨w.heap.size, k * 3 + 1, none⟩ = some v := ⟨_, hrow.cell (by omega)⟩
      have q2 : ∃ v, wr.cell? ⟨w.heap.size, k * 3 + 2, none⟩ = some v := ⟨_, hrow.cell (by omega)⟩
      have qf := hrow.frozen
      clear hx hy hp0 hp1 hz hrow hB hmk2
      go_wp2_with fail
      refine (addr_any x z wr hy1.1 hy1.2 hzr (by omega)).mono ?_
      rintro e w1 ⟨rfl, hb1⟩
      obtain ⟨v0, q0⟩ := q0
      obtain ⟨v1, q1⟩ := q1
      obtain ⟨v2, q2⟩ := q2
      have p0 := (hb1.cell (p := ⟨w.heap.size, k * 3, none⟩) hrlt).trans q0
      have p1 := (hb1.cell (p := ⟨w.heap.size, k * 3 + 1, none⟩) hrlt).trans q1
      have p2 := (hb1.cell (p := ⟨w.heap.size, k * 3 + 2, none⟩) hrlt).trans q2
      have pf : ∀ j, w1.frozen? ⟨w.heap.size, j, none⟩ = false := fun j => (hb1.frozen (p := ⟨w.heap.size, j, none⟩) hrlt).trans (qf j)
      have R := HL.out w1 hb1
      have HR : Hid ((layW w1 w.heap.size (k * 3) (281470681743360 + x) z).rowIs w.heap.size 32 (cp * 3) (rowK z xs (k + 1)) ∧ Below w.heap.size w (layW w1 w.heap.size (k * 3) (281470681743360 + x) z)) := R
      clear R HL q0 q1 q2 qf hb1 hzr hc
      unfold addrV
      go_wp2
      exact ⟨⟨k + 1, by omega, by go_num, HR.out.1, HR.out.2⟩, by simp [intOf]; omega⟩
    · have e : k = n := by omega
      subst e
      have hown := row_owns hrow (Nat.le_refl _) Hxl.out hcp (by omega)
      have hdb := hrow.lt
      have hwr := hB.size
      have HO : Hid (wr.ownsRow w.heap.size 32 3 (.slice (some ⟨w.heap.size, 0, none⟩) k cp) k (flatA z xs)) := hown
      have HB : Hid (Below w.heap.size w wr) := hB
      clear hown hB hrow
      go_wp2_with fail
      have hrow0 := made33_row wr m ys
      have hb0 : Below wr.heap.size wr (wr.alloc (.cells (madeCells #[.int .u32 0] m) 33)) := (Below.refl _ _).alloc (Nat.le_refl _) _
      clear hmk2
      obtain ⟨wo, rfl⟩ : ∃ wo : World, wo = wr := ⟨_, rfl⟩
      go_loopw [54] (fun i wr => ∃ j : Nat, j ≤ m ∧ i = .int .i64 j ∧ wr.rowIs wo.heap.size 33 m (idK ys j) ∧ Below wo.heap.size wo wr) (fun i _ => m - (intOf i).toNat)
      case atStart => exact ⟨0, Nat.zero_le _, rfl, hrow0, hb0⟩
      case round =>
        clear hrow0 hb0
        obtain ⟨j, hj, rfl, hrow, hB⟩ := hrel
        by_cases hlt2 : j < m
        · obtain ⟨b, off, ea, hbw, hc⟩ := hp1.below (HB.out.trans (hB.mono hwr)) j hlt2
          subst ea
          have HR : Hid ((wr.setCell ⟨wo.heap.size, j, none⟩ (.int .u32 (ys.getD j 0))).rowIs wo.heap.size 33 m (idK ys (j + 1)) ∧ Below wo.heap.size wo (wr.setCell ⟨wo.heap.size, j, none⟩ (.int .u32 (ys.getD j 0)))) :=
            ⟨id_row hrow, hB.setCell (Nat.le_refl _) _⟩
          have q0 := hrow.cell hlt2
          have qf := hrow.frozen j
          generalize ys.getD j 0 = x at hc HR
          clear hx hy hp0 hp1 hz hrow hB
          go_wp2
          exact ⟨⟨j + 1, by omega, by go_num, HR.out.1, HR.out.2⟩, by simp [intOf]; omega⟩
        · have e : j = m := by omega
          subst e
          have hids := id_row_done hrow
          have hwb : Below w.heap.size w wr := HB.out.trans (hB.mono hwr)
          have hown2 : wr.ownsRow w.heap.size 32 3 (.slice (some ⟨w.heap.size, 0, none⟩) k cp) k (flatA z xs) := HO.out.kept (row := none) ⟨hB.os, hB.tape, hB.output, hB.size, fun b hb _ => hB.block b hb⟩ (.inr (by simp [Value.ownBlock]))
          have A := app_any w.heap.size w.heap.size wo.heap.size k j cp z xs ys wr Hxl.out Hyl.out hn hm hy hg hwb.size ((hwb.cell (p := ⟨1, 0, none⟩) hg).trans hz) hrow.lt (by omega) hids hown2
          have hlt9 := hrow.lt
          clear hids hown2 hrow hB HO HB
          go_wp2_with fail
          refine A.mono ?_
          rintro e w3 ⟨g, c, rfl, hA⟩
          clear A
          have hb3 : Below w.heap.size w w3 := hwb.trans hA.below
          have HR : Hid (∀ i, i < k + j → w3.cell? ⟨g, i * 3, none⟩ = some (.int .u64 0) ∧ w3.cell? ⟨g, i * 3 + 1, none⟩ = some (.int .u64 (281470681743360 + (xs ++ ys).getD i 0)) ∧ w3.cell? ⟨g, i * 3 + 2, none⟩ = some (.pointer z)) := hA.res Hxl.out Hyl.out
          have HD : Hid (∀ i, i < k → w3.cell? ⟨w.heap.size, i * 3, none⟩ = some (.int .u64 0) ∧ w3.cell? ⟨w.heap.size, i * 3 + 1, none⟩ = some (.int .u64 (281470681743360 + xs.getD i 0)) ∧ w3.cell? ⟨w.heap.size, i * 3 + 2, none⟩ = some (.pointer z)) := hA.dst Hxl.out
          have hz3 : Hid (w3.cell? ⟨1, 0, none⟩ = some (.pointer z)) := (hb3.cell (p := ⟨1, 0, none⟩) hg).trans hz
          have hdb3 : w.heap.size < w3.heap.size := by have := hA.below.size; omega
          have hg3 := (own_lt hA.own).2
          have hw3 := hb3.size
          have hP0 : Hid (PreAt w a0 k xs) := hp0
          have hP1 : Hid (PreAt w a1 j ys) := hp1
          have HX : Hid (∀ y ∈ xs, 0 ≤ y ∧ y ≤ 4294967295) := hx
          have HY : Hid (∀ y ∈ ys, 0 ≤ y ∧ y ≤ 4294967295) := hy
          have HB3 : Hid (Below w.heap.size w w3) := hb3
          clear hA hwb hp0 hp1 hx hy hz hb3 hdb hwr
          go_wp2_with fail
          go_loopw [77] (fun i wr => ∃ t : Nat, t ≤ k ∧ i = .int .i64 t ∧ Below w3.heap.size w3 wr) (fun i _ => k - (intOf i).toNat)
          case atStart => exact ⟨0, Nat.zero_le _, rfl, Below.refl _ _⟩
          case round =>
            obtain ⟨t, ht, rfl, hB⟩ := hrel
            by_cases hlt3 : t < k
            · obtain ⟨b, off, ea, hbw, hc⟩ := hP0.out.below (HB3.out.trans (hB.mono hw3)) t hlt3
              subst ea
              obtain ⟨r0, r1, r2⟩ := HR.out t (by omega)
              rw [getD_left xs ys t (by have := Hxl.out; omega)] at r1
              have hr := mem_range HX.out (k := t) (by have := Hxl.out; omega)
              obtain ⟨e0, e1, e2⟩ := HD.out t (by omega)
              have d0 := (hB.cell (p := ⟨w.heap.size, t * 3, none⟩) hdb3).trans e0
              have d1 := (hB.cell (p := ⟨w.heap.size, t * 3 + 1, none⟩) hdb3).trans e1
              have d2 := (hB.cell (p := ⟨w.heap.size, t * 3 + 2, none⟩) hdb3).trans e2
              clear e0 e1 e2
              have s0 := (hB.cell (p := ⟨g, t * 3, none⟩) hg3).trans r0
              have s1 := (hB.cell (p := ⟨g, t * 3 + 1, none⟩) hg3).trans r1
              have s2 := (hB.cell (p := ⟨g, t * 3 + 2, none⟩) hg3).trans r2
              generalize xs.getD t 0 = x at hc hr s1 d1
              clear r0 r1 r2
              have he := eq28
              have hzr : wr.cell? ⟨1, 0, none⟩ = some (.pointer z) := (hB.cell (p := ⟨1, 0, none⟩) (by show 1 < _; omega)).trans hz3.out
              have hwr3 := hB.size
              have i1 : (0 : Int) ≤ (t : Int) := by omega
              have i2 : (t : Int) < (k : Int) := by omega
              have i3 : (t : Int) < (k : Int) + (j : Int) := by omega
              have hgr : g < wr.heap.size := by omega
              have hdr : w.heap.size < wr.heap.size := by omega
              go_wp2_with fail
              go_region_held3 (fun w' => w'.cell? ⟨g, t * 3, none⟩ = some (.int .u64 0) ∧ w'.cell? ⟨g, t * 3 + 1, none⟩ = some (.int .u64 (281470681743360 + x)) ∧ w'.cell? ⟨g, t * 3 + 2, none⟩ = some (.pointer z) ∧ w'.cell? ⟨w.heap.size, t * 3, none⟩ = some (.int .u64 0) ∧ w'.cell? ⟨w.heap.size, t * 3 + 1, none⟩ = some (.int .u64 (281470681743360 + x)) ∧ w'.cell? ⟨w.heap.size, t * 3 + 2, none⟩ = some (.pointer z)) (first | (go_keep; done) | exact ⟨(hb4.cell (p := ⟨g, t * 3, none⟩) hgr).trans s0, (hb4.cell (p := ⟨g, t * 3 + 1, none⟩) hgr).trans s1, (hb4.cell (p := ⟨g, t * 3 + 2, none⟩) hgr).trans s2, (hb4.cell (p := ⟨w.heap.size, t * 3, none⟩) hdr).trans d0, (hb4.cell (p := ⟨w.heap.size, t * 3 + 1, none⟩) hdr).trans d1, (hb4.cell (p := ⟨w.heap.size, t * 3 + 2, none⟩) hdr).trans d2⟩) (first | (go_at_call 8; refine (idof_any x z _ hr.1 hr.2 (by exact hzr) (by show 1 < wr.heap.size; omega)).mono ?_; rintro e w4 ⟨rfl, hb4⟩))
              go_wp2
              exact ⟨⟨t + 1, by omega, by go_num, hB.drew.trans (hb4.mono hB.size)⟩, by simp [intOf]; omega⟩
            · have e : t = k := by omega
              subst e
              have hB4 : Hid (Below w3.heap.size w3 wr) := hB
              have hwr3 := hB.size
              clear hB
              go_wp2_with fail
              obtain ⟨w5, rfl⟩ : ∃ w5 : World, w5 = wr := ⟨_, rfl⟩
              go_loopw [103] (fun i wr => ∃ u : Nat, u ≤ j ∧ i = .int .i64 u ∧ Below w5.heap.size w5 wr) (fun i _ => j - (intOf i).toNat)
              case atStart => exact ⟨0, Nat.zero_le _, rfl, Below.refl _ _⟩
              case round =>
                obtain ⟨u, hu, rfl, hB⟩ := hrel
                by_cases hlt4 : u < j
                · obtain ⟨b, off, ea, hbw, hc⟩ := hP1.out.below (HB3.out.trans (hB4.out.trans (hB.mono hwr3) |>.mono hw3)) u hlt4
                  subst ea
                  obtain ⟨r0, r1, r2⟩ := HR.out (t + u) (by omega)
                  rw [getD_right xs ys t u Hxl.out] at r1
                  have hr := mem_range HY.out (k := u) (by have := Hyl.out; omega)
                  have hB5 : Below w3.heap.size w3 wr := hB4.out.trans (hB.mono hwr3)
                  have s0 := (hB5.cell (p := ⟨g, (t + u) * 3, none⟩) hg3).trans r0
                  have s1 := (hB5.cell (p := ⟨g, (t + u) * 3 + 1, none⟩) hg3).trans r1
                  have s2 := (hB5.cell (p := ⟨g, (t + u) * 3 + 2, none⟩) hg3).trans r2
                  generalize ys.getD u 0 = x at hc hr s1
                  have hzr : wr.cell? ⟨1, 0, none⟩ = some (.pointer z) := (hB5.cell (p := ⟨1, 0, none⟩) (by show 1 < _; omega)).trans hz3.out
                  have hsz5 := hB5.size
                  have hg1r : 1 < wr.heap.size := by omega
                  have old : ∀ o : Obj, (wr.alloc o).cell? ⟨1, 0, none⟩ = some (.pointer z) := fun o => by rw [World.cell?_alloc_past _ _ _ hg1r]; exact hzr
                  have old2 : ∀ o o' : Obj, ((wr.alloc o).alloc o').cell? ⟨1, 0, none⟩ = some (.pointer z) := fun o o' => by rw [World.cell?_alloc_past _ _ _ (by simp; omega)]; exact old o
                  clear r0 r1 r2 hB5
                  go_wp2_with fail
                  refine (is4_any 0 (281470681743360 + x) z _ (old _) (by simp; omega)).mono ?_
                  rintro e w4 ⟨rfl, rfl⟩
                  go_wp2_with fail
                  refine (idof_any x z _ hr.1 hr.2 (old2 _ _) (by simp)).mono ?_
                  rintro e w6 ⟨rfl, hb6⟩
                  have hb7 : Below w5.heap.size w5 w6 := ((hB.alloc hB.size _).alloc (by have := hB.size; simp; omega) _).trans (hb6.mono (by have := hB.size; simp; omega))
                  clear hb6 old old2
                  go_wp2
                  exact ⟨⟨u + 1, by omega, by go_num, hb7⟩, by simp [intOf]; omega⟩
                · go_wp2
                  go_ret
                  exact ⟨rfl, HB3.out.trans ((hB4.out.trans (hB.mono hwr3)).mono hw3)⟩
end Go.Proofs.YbulkzgwDoor

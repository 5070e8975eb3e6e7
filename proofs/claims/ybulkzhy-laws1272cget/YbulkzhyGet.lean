/-
  get: the entry at seededAt's place, or none.
-/
import Derived.Test.YbulkzhySeeded
import Derived.Handy
import Derived.MapKept
namespace Go.Proofs.Ybulkzhy
open Go.RowKit
set_option linter.unusedVariables false

def zeroE : Value := .agg #[.int .i32 0, .int .i32 0]
theorem check57 (e : Bool) (w : World) (k : Int) : (Instr.checkKey e 10000 57 (.int .u64 k)).run Yba.prog w = .ok () w := by
  have h : ∀ n : Nat, (Instr.checkKey e (n + 1) 57 (.int .u64 k)).run Yba.prog w = .ok () w := fun n => by
    simp [Instr.checkKey, run_underlying Yba.underlying57]
  exact h 9999
theorem find57 (w : World) (k : Value) : (Instr.findKey 57 k []).run Yba.prog w = .ok none w := by
  simp [Instr.findKey, run_underlying Yba.underlying57, Instr.findNow]
theorem look_none {w : World} {mb : Nat} (k : Int) (hm : w.heap[mb]? = some (.map #[] 0)) :
    (Instr.lookup 40 (.map (some mb)) (.int .u64 k) true).run Yba.prog w = .ok (.tuple #[zeroE, .bool false]) w := by
  simp [Instr.lookup, run_underlying Yba.underlying40, MapKept.run_getObj_map hm, check57, find57]
  rfl

theorem set2 {w : World} {g : Nat} {u0 u1 : Value} (y z : Value) (h0 : w.cell? ⟨g, 0, none⟩ = some u0) (h1 : w.cell? ⟨g, 1, none⟩ = some u1) :
    ((w.setCell ⟨g, 0, none⟩ y).setCell ⟨g, 1, none⟩ z).cell? ⟨g, 0, none⟩ = some y ∧ ((w.setCell ⟨g, 0, none⟩ y).setCell ⟨g, 1, none⟩ z).cell? ⟨g, 1, none⟩ = some z :=
  ⟨(World.cell?_setCell_other _ ⟨g, 1, none⟩ ⟨g, 0, none⟩ _ (by simp)).trans (World.cell?_setCell_same _ ⟨g, 0, none⟩ _ h0),
    World.cell?_setCell_same _ ⟨g, 1, none⟩ _ ((World.cell?_setCell_other _ ⟨g, 0, none⟩ ⟨g, 1, none⟩ _ (by simp)).trans h1)⟩

set_option maxRecDepth 100000 in
theorem pair_any (x : Nat) (d : Int) (W : World) : Calls Yba.prog 18 #[.int .i32 x, .int .i32 d] W fun e w' => ∃ k, e = .returned (.int .u64 k) ∧ W = w' := by
  go_enter Yba.func18, Yba.ntmps18
  go_wp2_with fail
  go_ret
  exact ⟨_, rfl, rfl⟩

set_option maxRecDepth 100000 in
set_option maxHeartbeats 2000000 in
theorem get_found (B n m : Nat) (fo : Nat → Nat) (D K X : Nat → Int) (W : World) (hv : TV B n m fo D K X W) (hF : Fo n m fo D) (x : Nat) (hx : x ≤ n) (d : Int) (i : Nat) (hi : i = fo x + below D (fo x) (fo (x + 1) - fo x) d)
    (hok : (decide (i < fo (x + 1)) && decide (D i = d)) = true) :
    Calls Yba.prog 12 #[.pointer (some ⟨B + 2, 0, none⟩), .int .i32 x, .int .i32 d] W fun e w' => e = .returned (.tuple #[.agg #[.int .i32 (K i), .int .i32 (X i)], .bool true]) ∧ Below W.heap.size W w' := by
  have hmo := hF.mono x hx
  have him : i < m := by
    have := (Bool.and_eq_true _ _ ▸ hok).1
    have := of_decide_eq_true this
    omega
  have himz : (i : Int) < (m : Int) := by omega
  have hb1 : Below W.heap.size W (W.alloc (.cells #[.int .i32 0, .int .i32 0] 44)) := (Below.refl _ _).alloc (Nat.le_refl _) _
  have hs0 := seeded_any B n m fo D K X (W.alloc (.cells #[.int .i32 0, .int .i32 0] 44)) (hv.keep hb1) hF x hx d
  rw [← hi, hok] at hs0
  have hs : Calls Yba.prog 11 #[.pointer (some ⟨B + 2, 0, none⟩), .int .i32 x, .int .i32 d] (W.alloc (.cells #[.int .i32 0, .int .i32 0] 44)) fun e w' => e = .returned (.tuple #[.int .i64 (i : Int), .bool true]) ∧ Hid (Below W.heap.size W w') ∧
      w'.cell? ⟨B + 2, 1, none⟩ = some (.slice (some ⟨B + 3, 0, none⟩) m m) ∧ w'.cell? ⟨B + 3, i * 3 + 1, none⟩ = some (.int .i32 (K i)) ∧ w'.cell? ⟨B + 3, i * 3 + 1 + 1, none⟩ = some (.int .i32 (X i)) ∧
      w'.cell? ⟨W.heap.size, 0, none⟩ = some (.int .i32 0) ∧ w'.cell? ⟨W.heap.size, 1, none⟩ = some (.int .i32 0) ∧ w'.frozen? ⟨W.heap.size, 0, none⟩ = false ∧ w'.frozen? ⟨W.heap.size, 1, none⟩ = false := by
    refine hs0.mono ?_
    rintro e w' ⟨rfl, hb2⟩
    have hv2 := (hv.keep hb1).keep hb2
    have hk : W.heap.size < (W.alloc (.cells #[.int .i32 0, .int .i32 0] 44)).heap.size := by simp
    refine ⟨rfl, hb1.trans (hb2.mono (Nat.le_of_lt hk)), hv2.t1, hv2.sk i him, hv2.sx i him, ?_, ?_, ?_, ?_⟩
    · rw [hb2.cell (p := ⟨W.heap.size, 0, none⟩) hk, World.cell?_alloc_at _ _ _ _ rfl]; rfl
    · rw [hb2.cell (p := ⟨W.heap.size, 1, none⟩) hk, World.cell?_alloc_at _ _ _ _ rfl]; rfl
    · rw [hb2.frozen (p := ⟨W.heap.size, 0, none⟩) hk]; unfold World.frozen?; rw [heap_new]; rfl
    · rw [hb2.frozen (p := ⟨W.heap.size, 1, none⟩) hk]; unfold World.frozen?; rw [heap_new]; rfl
  clear hs0 hb1 hv hF hi hok hmo
  go_enter Yba.func12, Yba.ntmps12
  go_wp2_with (go_at_call 11; refine hs.mono ?_; rintro e w1 ⟨rfl, HB, h1, h2, h3, h4, h5, h6, h7⟩)
  clear h1 h2 h3 hs
  obtain ⟨q0, q1⟩ := set2 (.int .i32 (K i)) (.int .i32 (X i)) h4 h5
  have hbe : Below W.heap.size W ((w1.setCell ⟨W.heap.size, 0, none⟩ (.int .i32 (K i))).setCell ⟨W.heap.size, 1, none⟩ (.int .i32 (X i))) := (HB.out.setCell (Nat.le_refl _) _).setCell (Nat.le_refl _) _
  generalize (w1.setCell ⟨W.heap.size, 0, none⟩ (.int .i32 (K i))).setCell ⟨W.heap.size, 1, none⟩ (.int .i32 (X i)) = W9 at q0 q1 hbe ⊢
  refine bodyPost_ret (by simp [results, Yba.results12, go_sem, q0, q1]; rfl) rfl ?_
  exact ⟨rfl, hbe⟩

set_option maxRecDepth 100000 in
set_option maxHeartbeats 2000000 in
theorem get_none (B n m : Nat) (fo : Nat → Nat) (D K X : Nat → Int) (W : World) (hv : TV B n m fo D K X W) (hF : Fo n m fo D) (x : Nat) (hx : x ≤ n) (d : Int) (i : Nat) (hi : i = fo x + below D (fo x) (fo (x + 1) - fo x) d)
    (hok : (decide (i < fo (x + 1)) && decide (D i = d)) = false) :
    Calls Yba.prog 12 #[.pointer (some ⟨B + 2, 0, none⟩), .int .i32 x, .int .i32 d] W fun e w' => e = .returned (.tuple #[.agg #[.int .i32 0, .int .i32 0], .bool false]) ∧ Below W.heap.size W w' := by
  have hb1 : Below W.heap.size W (W.alloc (.cells #[.int .i32 0, .int .i32 0] 44)) := (Below.refl _ _).alloc (Nat.le_refl _) _
  have hs0 := seeded_any B n m fo D K X (W.alloc (.cells #[.int .i32 0, .int .i32 0] 44)) (hv.keep hb1) hF x hx d
  rw [← hi, hok] at hs0
  have hs : Calls Yba.prog 11 #[.pointer (some ⟨B + 2, 0, none⟩), .int .i32 x, .int .i32 d] (W.alloc (.cells #[.int .i32 0, .int .i32 0] 44)) fun e w' => e = .returned (.tuple #[.int .i64 (i : Int), .bool false]) ∧ Hid (Below W.heap.size W w') ∧
      w'.cell? ⟨B + 2, 2, none⟩ = some (.map (some (B + 1))) ∧ Hid (w'.heap[B + 1]? = some (.map #[] 0)) ∧ B + 4 ≤ w'.heap.size ∧ W.heap.size < w'.heap.size ∧
      w'.cell? ⟨W.heap.size, 0, none⟩ = some (.int .i32 0) ∧ w'.cell? ⟨W.heap.size, 1, none⟩ = some (.int .i32 0) ∧ w'.frozen? ⟨W.heap.size, 0, none⟩ = false ∧ w'.frozen? ⟨W.heap.size, 1, none⟩ = false := by
    refine hs0.mono ?_
    rintro e w' ⟨rfl, hb2⟩
    have hv2 := (hv.keep hb1).keep hb2
    have hk : W.heap.size < (W.alloc (.cells #[.int .i32 0, .int .i32 0] 44)).heap.size := by simp
    refine ⟨rfl, hb1.trans (hb2.mono (Nat.le_of_lt hk)), hv2.t2, hv2.mp, hv2.lt, Nat.lt_of_lt_of_le hk hb2.size, ?_, ?_, ?_, ?_⟩
    · rw [hb2.cell (p := ⟨W.heap.size, 0, none⟩) hk, World.cell?_alloc_at _ _ _ _ rfl]; rfl
    · rw [hb2.cell (p := ⟨W.heap.size, 1, none⟩) hk, World.cell?_alloc_at _ _ _ _ rfl]; rfl
    · rw [hb2.frozen (p := ⟨W.heap.size, 0, none⟩) hk]; unfold World.frozen?; rw [heap_new]; rfl
    · rw [hb2.frozen (p := ⟨W.heap.size, 1, none⟩) hk]; unfold World.frozen?; rw [heap_new]; rfl
  clear hs0 hb1 hv hF hi hok
  go_enter Yba.func12, Yba.ntmps12
  go_upto_region 4 with (go_at_call 11; refine hs.mono ?_; rintro e w1 ⟨rfl, HB, h1, HM, h2, h3, h4, h5, h6, h7⟩)
  have hpr : ∀ W : World, Calls Yba.prog 18 #[.int .i32 x, .int .i32 d] W fun e w' => ∃ k, e = .returned (.int .u64 k) ∧ W = w' := fun W => pair_any x d W
  have hl0 : ∀ k, (Instr.lookup 40 (.map (some (B + 1))) (.int .u64 k) true).run Yba.prog w1 = .ok (.tuple #[.agg #[.int .i32 0, .int .i32 0], .bool false]) w1 := fun k => look_none k HM.out
  have hl1 : ∀ k, (Instr.lookup 40 (.map (some (B + 1))) (.int .u64 k) true).run Yba.prog w1.drew = .ok (.tuple #[.agg #[.int .i32 0, .int .i32 0], .bool false]) w1.drew := fun k => look_none k HM.out
  have hl2 : ∀ o k, (Instr.lookup 40 (.map (some (B + 1))) (.int .u64 k) true).run Yba.prog (w1.alloc o) = .ok (.tuple #[.agg #[.int .i32 0, .int .i32 0], .bool false]) (w1.alloc o) := fun o k => look_none k ((Below.heap_alloc w1 o _ (by omega)).trans HM.out)
  have hl3 : ∀ o k, (Instr.lookup 40 (.map (some (B + 1))) (.int .u64 k) true).run Yba.prog (w1.alloc o).drew = .ok (.tuple #[.agg #[.int .i32 0, .int .i32 0], .bool false]) (w1.alloc o).drew := fun o k => look_none k ((Below.heap_alloc w1 o _ (by omega)).trans HM.out)
  have ha1 : ∀ o, (w1.alloc o).cell? ⟨B + 2, 2, none⟩ = some (.map (some (B + 1))) := fun o => cell_alloc_sl o h1
  clear hs
  go_cut [10, 11] from 28 (fun s10 s11 wc => s10 = .pointer (some ⟨w1.heap.size, 0, none⟩) ∧ s11 = .bool false ∧ wc = (w1.alloc (.cells #[.int .i32 0, .int .i32 0] 44)).drew)
  case first =>
    go_region_with (go_at_call 18; refine (hpr _).mono ?_; rintro e w' ⟨k, rfl, rfl⟩)
    all_goals (go_wp2_with fail; go_meet; exact ⟨rfl, rfl, rfl⟩)
  case rest =>
    obtain ⟨rfl, rfl, rfl⟩ := hcut
    clear hpr hl0 hl1 hl2 hl3 ha1 h1 HM
    have hb2 : Below W.heap.size W (w1.alloc (.cells #[.int .i32 0, .int .i32 0] 44)).drew := (HB.out.alloc (Nat.le_of_lt h3) _).drew
    have k4 : (w1.alloc (.cells #[.int .i32 0, .int .i32 0] 44)).drew.cell? ⟨W.heap.size, 0, none⟩ = some (.int .i32 0) := cell_alloc_sl _ h4
    have k5 : (w1.alloc (.cells #[.int .i32 0, .int .i32 0] 44)).drew.cell? ⟨W.heap.size, 1, none⟩ = some (.int .i32 0) := cell_alloc_sl _ h5
    have hbw : Below w1.heap.size w1 (w1.alloc (.cells #[.int .i32 0, .int .i32 0] 44)).drew := ((Below.refl _ _).alloc (Nat.le_refl _) _).drew
    have k6 := (hbw.frozen (p := ⟨W.heap.size, 0, none⟩) h3).trans h6
    have k7 := (hbw.frozen (p := ⟨W.heap.size, 1, none⟩) h3).trans h7
    have k0 : (w1.alloc (.cells #[.int .i32 0, .int .i32 0] 44)).drew.cell? ⟨w1.heap.size, 0, none⟩ = some (.int .i32 0) := by
      show (w1.alloc _).cell? _ = _
      rw [World.cell?_alloc_at _ _ _ _ rfl]; rfl
    have k1 : (w1.alloc (.cells #[.int .i32 0, .int .i32 0] 44)).drew.cell? ⟨w1.heap.size, 1, none⟩ = some (.int .i32 0) := by
      show (w1.alloc _).cell? _ = _
      rw [World.cell?_alloc_at _ _ _ _ rfl]; rfl
    have HB2 : Hid (Below W.heap.size W (w1.alloc (.cells #[.int .i32 0, .int .i32 0] 44)).drew) := hb2
    clear hbw h4 h5 h6 h7 hb2
    generalize (w1.alloc (.cells #[.int .i32 0, .int .i32 0] 44)).drew = W2 at k0 k1 k4 k5 k6 k7 HB2 ⊢
    go_wp2_with fail
    obtain ⟨q0, q1⟩ := set2 (.int .i32 0) (.int .i32 0) k4 k5
    have hbe : Below W.heap.size W ((W2.setCell ⟨W.heap.size, 0, none⟩ (.int .i32 0)).setCell ⟨W.heap.size, 1, none⟩ (.int .i32 0)) := (HB2.out.setCell (Nat.le_refl _) _).setCell (Nat.le_refl _) _
    generalize (W2.setCell ⟨W.heap.size, 0, none⟩ (.int .i32 0)).setCell ⟨W.heap.size, 1, none⟩ (.int .i32 0) = W9 at q0 q1 hbe ⊢
    refine bodyPost_ret (by simp [results, Yba.results12, go_sem, q0, q1]; rfl) rfl ?_
    exact ⟨rfl, hbe⟩

theorem get_any (B n m : Nat) (fo : Nat → Nat) (D K X : Nat → Int) (W : World) (hv : TV B n m fo D K X W) (hF : Fo n m fo D) (x : Nat) (hx : x ≤ n) (d : Int) (i : Nat) (hi : i = fo x + below D (fo x) (fo (x + 1) - fo x) d)
    (ok : Bool) (hok : ok = (decide (i < fo (x + 1)) && decide (D i = d))) :
    Calls Yba.prog 12 #[.pointer (some ⟨B + 2, 0, none⟩), .int .i32 x, .int .i32 d] W fun e w' => ∃ y z : Int, e = .returned (.tuple #[.agg #[.int .i32 y, .int .i32 z], .bool ok]) ∧ Hid (ok = true → y = K i ∧ z = X i) ∧ Hid (Below W.heap.size W w') := by
  cases ok
  · refine (get_none B n m fo D K X W hv hF x hx d i hi hok.symm).mono ?_
    rintro e w' ⟨rfl, hb⟩
    exact ⟨0, 0, rfl, (fun h => by cases h), hb⟩
  · refine (get_found B n m fo D K X W hv hF x hx d i hi hok.symm).mono ?_
    rintro e w' ⟨rfl, hb⟩
    exact ⟨_, _, rfl, fun _ => ⟨rfl, rfl⟩, hb⟩
end Go.Proofs.Ybulkzhy

/-
  seededAt: the first place in x's run whose destination is at least dest.
-/
import Derived.Test.YbulkzhyClos
import Derived.Deep.DeepCutAuto
namespace Go.Proofs.Ybulkzhy
open Go.RowKit
set_option linter.unusedVariables false

theorem eq_bool (v d : Int) : (v == d) = decide (v = d) := by
  by_cases h : v = d
  · simp [h]
  · simp [h]
theorem _root_.Go.RowKit.Below.drewN {B : Nat} {a w : World} (h : Below B a w) (q : Nat) : Below B a (w.drewN q) := ⟨h.os, h.tape, h.output, h.size, h.block⟩

set_option maxRecDepth 100000 in
set_option maxHeartbeats 1000000 in
theorem seeded_any (B n m : Nat) (fo : Nat → Nat) (D K X : Nat → Int) (W : World) (hv : TV B n m fo D K X W) (hF : Fo n m fo D) (x : Nat) (hx : x ≤ n) (d : Int) :
    Calls Yba.prog 11 #[.pointer (some ⟨B + 2, 0, none⟩), .int .i32 x, .int .i32 d] W fun e w' => e = .returned (.tuple #[.int .i64 ((fo x + below D (fo x) (fo (x + 1) - fo x) d : Nat) : Int),
      .bool (decide (fo x + below D (fo x) (fo (x + 1) - fo x) d < fo (x + 1)) && decide (D (fo x + below D (fo x) (fo (x + 1) - fo x) d) = d))]) ∧ Below W.heap.size W w' := by
  have hsm := hF.small
  have hmo := hF.mono x hx
  have hbl := below_le D (fo x) (fo (x + 1) - fo x) d
  have HS : Hid (∀ (W : World), TV B n m fo D K X W → ∀ (pt ps pd : Nat), pt < W.heap.size → ps < W.heap.size → pd < W.heap.size → W.cell? ⟨pt, 0, none⟩ = some (.pointer (some ⟨B + 2, 0, none⟩)) → W.cell? ⟨ps, 0, none⟩ = some (.int .i64 (fo x)) → W.cell? ⟨pd, 0, none⟩ = some (.int .i32 d) →
      Calls Yba.prog 16 #[.int .i64 ((fo (x + 1) - fo x : Nat) : Int), .func (.func 17) #[] #[.pointer (some ⟨pt, 0, none⟩), .pointer (some ⟨ps, 0, none⟩), .pointer (some ⟨pd, 0, none⟩)]] W fun e w' =>
        e = .returned (.int .i64 (below D (fo x) (fo (x + 1) - fo x) d : Nat)) ∧ Below W.heap.size W w') := fun W hv pt ps pd a b c e f g => Yba.search16 B n m fo D K X W hv hF pt ps pd x d hx a b c e f g
  have HV : Hid (TV B n m fo D K X W) := hv
  have hw1 : IntKind.i32.wrap ((x : Int) + 1) = (x : Int) + 1 := by rw [IntKind.wrap_i32]; omega
  clear hv hF
  generalize below D (fo x) (fo (x + 1) - fo x) d = bl at HS hbl
  obtain ⟨p, hp⟩ : ∃ p, p = fo x + bl := ⟨_, rfl⟩
  rw [← hp]
  have HP : Hid (p = fo x + bl) := hp
  have hpm : p ≤ fo (x + 1) := by omega
  clear hp
  go_enter Yba.func11, Yba.ntmps11
  go_wp2_with fail
  have hb1 : Below W.heap.size W ((W.alloc (.cells #[.pointer (some ⟨B + 2, 0, none⟩)] 32)).alloc (.cells #[.int .i32 d] 21)) := ((Below.refl _ _).alloc (Nat.le_refl _) _).alloc (by simp) _
  have hz1 : ((W.alloc (.cells #[.pointer (some ⟨B + 2, 0, none⟩)] 32)).alloc (.cells #[.int .i32 d] 21)).heap.size = W.heap.size + 2 := by simp
  have hp1 : ((W.alloc (.cells #[.pointer (some ⟨B + 2, 0, none⟩)] 32)).alloc (.cells #[.int .i32 d] 21)).cell? ⟨W.heap.size, 0, none⟩ = some (.pointer (some ⟨B + 2, 0, none⟩)) := by simp
  have hp2 : ((W.alloc (.cells #[.pointer (some ⟨B + 2, 0, none⟩)] 32)).alloc (.cells #[.int .i32 d] 21)).cell? ⟨W.heap.size + 1, 0, none⟩ = some (.int .i32 d) := by
    rw [World.cell?_alloc_at _ _ _ _ (by simp)]; rfl
  generalize (W.alloc (.cells #[.pointer (some ⟨B + 2, 0, none⟩)] 32)).alloc (.cells #[.int .i32 d] 21) = W1 at hb1 hz1 hp1 hp2 ⊢
  have hv1 := HV.out.keep hb1
  have ht0 := hv1.t0
  have hf0 := hv1.first x (by omega)
  have hf1 := hv1.first (x + 1) (by omega)
  have HV1 : Hid (TV B n m fo D K X W1) := hv1
  have HB1 : Hid (Below W.heap.size W W1) := hb1
  obtain ⟨s, hs⟩ : ∃ s, s = fo x := ⟨_, rfl⟩
  obtain ⟨e, he⟩ : ∃ e, e = fo (x + 1) := ⟨_, rfl⟩
  rw [← hs] at hf0
  rw [← he] at hf1
  clear hv1 hb1
  have hlt := HV.out.lt
  have hl1 : B + 2 < W1.heap.size := by omega
  have hl2 : B < W1.heap.size := by omega
  have hl3 : W.heap.size < W1.heap.size := by omega
  have hl4 : W.heap.size + 1 < W1.heap.size := by omega
  have hxz : (x : Int) < (n : Int) + 2 := by omega
  have hxz1 : (x : Int) + 1 < (n : Int) + 2 := by omega
  have hxz2 : (0 : Int) ≤ (x : Int) + 1 := by omega
  have ha1 : ∀ o, (W1.alloc o).cell? ⟨B + 2, 0, none⟩ = some (.slice (some ⟨B, 0, none⟩) (n + 2) (n + 2)) := fun o => cell_alloc_sl o ht0
  have ha2 : ∀ o, (W1.alloc o).cell? ⟨B, x, none⟩ = some (.int .i64 s) := fun o => cell_alloc_sl o hf0
  have ha3 : ∀ o, (W1.alloc o).cell? ⟨B, x + 1, none⟩ = some (.int .i64 e) := fun o => cell_alloc_sl o hf1
  have ha4 : ∀ o, (W1.alloc o).cell? ⟨W.heap.size, 0, none⟩ = some (.pointer (some ⟨B + 2, 0, none⟩)) := fun o => cell_alloc_sl o hp1
  go_region
  clear ha1 ha2 ha3 ha4
  have hb2 : Below W.heap.size W (W1.alloc (.cells #[.int .i64 (fo x)] 3)).drew := (HB1.out.alloc (by omega) _).drew
  have hz2 : (W1.alloc (.cells #[.int .i64 (fo x)] 3)).drew.heap.size = W.heap.size + 3 := by
    show (W1.alloc (.cells #[.int .i64 (fo x)] 3)).heap.size = _
    simp [hz1]
  have hq1 : (W1.alloc (.cells #[.int .i64 (fo x)] 3)).drew.cell? ⟨W.heap.size, 0, none⟩ = some (.pointer (some ⟨B + 2, 0, none⟩)) := cell_alloc_sl _ hp1
  have hq2 : (W1.alloc (.cells #[.int .i64 (fo x)] 3)).drew.cell? ⟨W.heap.size + 1, 0, none⟩ = some (.int .i32 d) := cell_alloc_sl _ hp2
  have hq3 : (W1.alloc (.cells #[.int .i64 (fo x)] 3)).drew.cell? ⟨W.heap.size + 2, 0, none⟩ = some (.int .i64 (fo x)) := by
    have := cell_new_sl W1 (.int .i64 (fo x)) 3
    rw [hz1] at this
    exact this
  generalize (W1.alloc (.cells #[.int .i64 (fo x)] 3)).drew = W2 at hb2 hz2 hq1 hq2 hq3 ⊢
  have hv2 := HV.out.keep hb2
  have HV2 : Hid (TV B n m fo D K X W2) := hv2
  have HB2 : Hid (Below W.heap.size W W2) := hb2
  obtain ⟨L, hL⟩ : ∃ L, L = fo (x + 1) - fo x := ⟨_, rfl⟩
  have hLz : ((fo (x + 1) : Nat) : Int) - ((fo x : Nat) : Int) = (L : Int) := by omega
  have hcall : Calls Yba.prog 16 #[.int .i64 (L : Int), .func (.func 17) #[] #[.pointer (some ⟨W.heap.size, 0, none⟩), .pointer (some ⟨W.heap.size + 2, 0, none⟩), .pointer (some ⟨W.heap.size + 1, 0, none⟩)]] W2.drew fun e w' =>
      e = .returned (.int .i64 (bl : Nat)) ∧ w'.cell? ⟨W.heap.size + 2, 0, none⟩ = some (.int .i64 (fo x)) ∧ Hid (Below W2.heap.size W2 w') := by
    rw [hL]
    refine (HS.out W2.drew (hv2.keep (Below.refl _ _).drew) W.heap.size (W.heap.size + 2) (W.heap.size + 1) (by show _ < W2.heap.size; omega) (by show _ < W2.heap.size; omega) (by show _ < W2.heap.size; omega) hq1 hq3 hq2).mono ?_
    rintro e w' ⟨rfl, hb⟩
    have hb' : Below W2.heap.size W2 w' := ((Below.refl W2.heap.size W2).drew).trans hb
    exact ⟨rfl, (hb'.cell (p := ⟨W.heap.size + 2, 0, none⟩) (by show W.heap.size + 2 < _; omega)).trans hq3, hb'⟩
  clear hv2 hb2 hL HS hp1 hp2 ht0 hf0 hf1 HV1 HB1 hs he
  have hwl : IntKind.i64.wrap (L : Int) = (L : Int) := by rw [IntKind.wrap_i64]; omega
  have hwa : IntKind.i64.wrap (((fo x : Nat) : Int) + (bl : Int)) = (p : Int) := by have := HP.out; rw [IntKind.wrap_i64]; omega
  go_upto_region 2 with fail
  go_cut [10] from 11 (fun s10 wc => s10 = .int .i64 (p : Int) ∧ Hid (Below W2.heap.size W2 wc))
  case first =>
    go_region_with (go_at_call 16; with_reducible refine hcall.mono ?_; rintro e w' ⟨rfl, hcs, HB3⟩)
    all_goals (go_wp2_with fail; go_meet; exact ⟨rfl, HB3⟩)
  case rest =>
    obtain ⟨rfl, HB4⟩ := hcut
    have hv4 := HV2.out.keep HB4.out
    have hr1 : wc.cell? ⟨W.heap.size, 0, none⟩ = some (.pointer (some ⟨B + 2, 0, none⟩)) := (HB4.out.cell (p := ⟨W.heap.size, 0, none⟩) (by show W.heap.size < _; omega)).trans hq1
    have hr2 : wc.cell? ⟨W.heap.size + 1, 0, none⟩ = some (.int .i32 d) := (HB4.out.cell (p := ⟨W.heap.size + 1, 0, none⟩) (by show W.heap.size + 1 < _; omega)).trans hq2
    have ht1 := hv4.t1
    have HE : Hid (Below W.heap.size W wc) := HB2.out.trans (HB4.out.mono (by omega))
    clear hcall hq1 hq2 hq3 HB2 HB4 HV2 hwa hwl
    by_cases hin : p < fo (x + 1)
    · have hsd := hv4.sd p (by omega)
      have hinz : (p : Int) < ((fo (x + 1) : Nat) : Int) := by omega
      have him : (p : Int) < (m : Int) := by omega
      clear hv4
      obtain ⟨v, hvd⟩ : ∃ v, v = D p := ⟨_, rfl⟩
      rw [← hvd] at hsd
      have HVD : Hid (v = D p) := hvd
      clear hvd
      go_wp2_with fail
      go_big_quiet (fail)
      go_wp2_with fail
      go_ret2
      refine ⟨?_, HE.out.drewN _⟩
      rw [← HVD.out]
      simp [hin, eq_bool]
    · have hinz : decide ((p : Int) < ((fo (x + 1) : Nat) : Int)) = false := decide_eq_false (by omega)
      clear hv4
      go_wp2_with fail
      go_big_quiet (fail)
      go_wp2_with fail
      go_ret2
      refine ⟨?_, HE.out.drewN _⟩
      simp [hin]
end Go.Proofs.Ybulkzhy

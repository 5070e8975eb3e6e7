/-
  LawS1272CGet.
-/
import Derived.Test.YbulkzhyGet
import Derived.Test.YbulkzhyTable
import Derived.Test.YbulkzhyBelow
namespace Go.Proofs.Ybulkzhy
open Go.RowKit
set_option linter.unusedVariables false

set_option maxRecDepth 100000 in
set_option maxHeartbeats 4000000 in
theorem getlaw_any (a : Option Addr) (n c : Nat) (ds : List (List Int)) (w : World) (hn : n ≤ maxLen) (hl : ds.length = n) (hL : RowsAt w a n ds) (sel sel2 : Nat) (h1 : sel < 65536) (h2 : sel2 < 65536) (pk : Bool) (d : Int) :
    Calls Yba.prog 6 #[.slice a n c, .int .u16 sel, .int .u16 sel2, .bool pk, .int .i32 d] w fun e w' => e = .returned (.bool true) ∧ Below w.heap.size w w' := by
  have hb := build_any a n c ds w hn hl hL
  have HL : Hid (ds.length = n) := hl
  have HR : Hid (RowsAt w a n ds) := hL
  clear hl hL
  go_enter Yba.func6, Yba.ntmps6
  go_wp2_with (go_at_call 9; refine hb.mono ?_; rintro e w1 (⟨rfl, hb1⟩ | ⟨rfl, hsm, htab, hown⟩))
  · go_ret
    exact ⟨rfl, hb1⟩
  · have hsm2 : n ≤ 1024 ∧ offs ds n ≤ 65536 := hsm
    obtain ⟨D, K, X, hv, hF, hpt⟩ := tab_view HL.out hsm2.1 hsm2.2 htab hown
    have HB : Hid (Below w.heap.size w w1) := htab.below
    have HFO : Hid (∀ x, x < n → offs ds (x + 1) = offs ds x + (ds.getD x []).length) := fun x hx => offs_succ (by rw [HL.out]; exact hx)
    have HFE : Hid (offs ds (n + 1) = offs ds n) := by
      show offs ds (n + 1) = offs ds n
      unfold offs
      rw [List.take_of_length_le (Nat.le_of_eq HL.out), List.take_of_length_le (by rw [HL.out]; omega)]
    clear hsm2
    obtain ⟨m, hmm⟩ : ∃ m, m = offs ds n := ⟨_, rfl⟩
    rw [← hmm] at hv hF
    clear hmm hsm htab hown
    generalize offs ds = fo at hv hF hpt HFO HFE
    have hpick := pick_any w.heap.size n m fo D K X w1 hv hF sel sel2 h1 h2 pk d
    obtain ⟨x, hx⟩ : ∃ x, x = sel % (n + 1) := ⟨_, rfl⟩
    have hxn : x ≤ n := by rw [hx]; exact Nat.le_of_lt_succ (Nat.mod_lt _ (by omega))
    rw [← hx] at hpick
    clear hx
    refine hpick.mono ?_
    rintro e w2 ⟨d2, rfl, q, rfl⟩
    clear hpick
    have hbl := below_le D (fo x) (fo (x + 1) - fo x) d2
    have hmo := hF.mono x hxn
    have hplace : ∀ p, fo x ≤ p → p < fo (x + 1) → (D p < d2 ↔ p < fo x + below D (fo x) (fo (x + 1) - fo x) d2) := fun p a b => run_place hF hxn d2 a b
    obtain ⟨i, hi⟩ : ∃ i, i = fo x + below D (fo x) (fo (x + 1) - fo x) d2 := ⟨_, rfl⟩
    simp only [← hi] at hplace
    have hi1 : fo x ≤ i ∧ i ≤ fo (x + 1) := by omega
    have hsmall := hF.small
    have hwx := wrap32 x (by omega)
    have HSO : Hid (∀ p q, fo x ≤ p → p < q → q < fo (x + 1) → D p ≤ D q) := fun p q a b c => hF.sorted x p q hxn a b c
    have HPL : Hid (∀ p, fo x ≤ p → p < fo (x + 1) → (D p < d2 ↔ p < i)) := hplace
    obtain ⟨ok, hok⟩ : ∃ ok, ok = (decide (i < fo (x + 1)) && decide (D i = d2)) := ⟨_, rfl⟩
    have HOK : Hid (ok = (decide (i < fo (x + 1)) && decide (D i = d2))) := hok
    have HPT : Hid (∀ k, x < n → k < (ds.getD x []).length → D (fo x + k) = (srt (ds.getD x [])).getD k 0 ∧ K (fo x + k) = (k : Int) ∧ X (fo x + k) = (x : Int)) := fun k a b => hpt x k a b
    have hget := get_any w.heap.size n m fo D K X (w1.drewN q) (hv.keep ((Below.refl _ _).drewN q)) hF x hxn d2 i hi ok hok
    clear hi hbl hv hF hplace hb hpt hok
    go_upto_region 6 with (go_at_call 12; refine hget.mono ?_; rintro e w3 ⟨y, z, rfl, HY, HB3⟩)
    clear hget
    have hb3 : Below w1.heap.size w1 w3 := ((Below.refl w1.heap.size w1).drewN q).trans HB3.out
    have hb5 : Below w.heap.size w (w3.alloc (.cells #[.int .i32 y, .int .i32 z] 44)) := (HB.out.trans (hb3.mono HB.out.size)).alloc (Nat.le_trans HB.out.size hb3.size) _
    have hc0 : (w3.alloc (.cells #[.int .i32 y, .int .i32 z] 44)).cell? ⟨w3.heap.size, 0, none⟩ = some (.int .i32 y) := by
      rw [World.cell?_alloc_at _ _ _ _ rfl]; rfl
    have hc1 : (w3.alloc (.cells #[.int .i32 y, .int .i32 z] 44)).cell? ⟨w3.heap.size, 1, none⟩ = some (.int .i32 z) := by
      rw [World.cell?_alloc_at _ _ _ _ rfl]; rfl
    have hgs : w3.heap.size < (w3.alloc (.cells #[.int .i32 y, .int .i32 z] 44)).heap.size := by simp
    have HB5 : Hid (Below w.heap.size w (w3.alloc (.cells #[.int .i32 y, .int .i32 z] 44))) := hb5
    clear HB3 hb3 hb5 HB
    generalize w3.alloc (.cells #[.int .i32 y, .int .i32 z] 44) = W5 at hc0 hc1 hgs HB5 ⊢
    generalize w3.heap.size = g at hc0 hc1 hgs ⊢
    by_cases hxl : x < n
    · have hxz : ¬ ((n : Int) ≤ (x : Int)) := by omega
      have hxz' : (x : Int) < (n : Int) := by omega
      obtain ⟨b, off, A, C, ea, hbw, hcell, hrm, hA⟩ := HR.out x hxl
      subst ea
      have HO : Hid (fo (x + 1) = fo x + (ds.getD x []).length) := HFO.out x hxl
      obtain ⟨l, hl⟩ : ∃ l, l = ds.getD x [] := ⟨_, rfl⟩
      have HPT2 : Hid (∀ k, k < l.length → D (fo x + k) = (srt l).getD k 0 ∧ K (fo x + k) = (k : Int) ∧ X (fo x + k) = (x : Int)) := by
        rw [hl]; exact fun k hk => HPT.out k hxl hk
      rw [← hl] at hcell hrm hA HO
      obtain ⟨mm, hm⟩ : ∃ mm, mm = l.length := ⟨_, rfl⟩
      rw [← hm] at hcell hrm hA HO HPT2
      have hOz := HO.out
      have hm16 : mm ≤ 65536 := by omega
      have hcell' : W5.cell? ⟨b, off + x, none⟩ = some (.slice A mm C) := (HB5.out.cell (p := ⟨b, off + x, none⟩) hbw).trans hcell
      have hA' : (A = none ∧ mm = 0 ∧ C = 0) ∨ (mm = 0 ∧ ∃ ad, A = some ad) ∨ ∃ b' o', A = some ⟨b', o', none⟩ ∧ b' < W5.heap.size ∧ ∀ c, c < mm → W5.cell? ⟨b', o' + c, none⟩ = some (.int .i32 (l.getD c 0)) := by
        rcases hA with h | h | ⟨b', o', h1, h2, h3⟩
        · exact Or.inl h
        · exact Or.inr (Or.inl h)
        · exact Or.inr <| Or.inr ⟨b', o', h1, Nat.lt_of_lt_of_le h2 HB5.out.size, fun c hc => (HB5.out.cell (p := ⟨b', o' + c, none⟩) h2).trans (h3 c hc)⟩
      have hcl := Yba.cloneS A C mm l W5 hm.symm hm16 hA'
      have hso : ∀ A' C' w1, RowV W5.heap.size w1 (.slice A' mm C') l → Calls Yba.prog 14 #[.slice A' mm C'] w1 fun e w' => e = .returned (.tuple #[]) ∧ RowV W5.heap.size w' (.slice A' mm C') (srt l) ∧ Below W5.heap.size w1 w' := fun A' C' w1 h => Yba.sortV h (by omega)
      have HM : Hid (mm = l.length) := hm
      have HT : Hid (∀ j, j < mm → (∀ t, t < j → (srt l).getD t 0 ≠ d2) → (srt l).getD j 0 = d2 → ok = true ∧ y = (j : Int) ∧ z = (x : Int)) := by
        intro j hj hne he
        obtain ⟨p1, p2, p3⟩ := HPT2.out j hj
        have hp := HPL.out (fo x + j) (by omega) (by omega)
        have hij : i = fo x + j := by
          rcases Nat.lt_or_ge i (fo x + j) with h | h
          · exfalso
            have q1 := (HPT2.out (i - fo x) (by omega)).1
            rw [show fo x + (i - fo x) = i by omega] at q1
            have q2 := hne (i - fo x) (by omega)
            have q3 := HSO.out i (fo x + j) hi1.1 h (by omega)
            have q4 := HPL.out i hi1.1 (by omega)
            rw [← q1] at q2
            omega
          · omega
        have hk : ok = true := by
          rw [HOK.out, hij]
          simp only [Bool.and_eq_true, decide_eq_true_eq]
          exact ⟨by omega, by omega⟩
        obtain ⟨r1, r2⟩ := HY.out hk
        rw [hij] at r1 r2
        exact ⟨hk, by omega, by omega⟩
      have HFF : Hid ((∀ t, t < mm → (srt l).getD t 0 ≠ d2) → ok = false) := by
        intro h
        rw [HOK.out]
        by_cases hie : i < fo (x + 1)
        · have q1 := (HPT2.out (i - fo x) (by omega)).1
          rw [show fo x + (i - fo x) = i by omega] at q1
          have q2 := h (i - fo x) (by omega)
          rw [← q1] at q2
          simp [hie, q2]
        · simp [hie]
      clear hA hA' hcell hm hl hOz HOK HSO HPL HPT HPT2 HY HO HFO HR HL hi1 hmo hsmall
      go_wp2_with (first
        | (go_at_call 13; refine hcl.mono ?_; rintro e w6 ⟨A', C', rfl, hr1, hb1⟩)
        | (go_at_call 14; refine (hso _ _ _ hr1).mono ?_; rintro e w7 ⟨rfl, hr2, hb2⟩))
      have hb7 : Below W5.heap.size W5 w7 := hb1.trans hb2
      have HR7 : Hid (RowV W5.heap.size w7 (.slice A' mm C') (srt l)) := hr2
      have HB7 : Hid (Below w.heap.size w w7) := HB5.out.trans (hb7.mono HB5.out.size)
      have g0 : w7.cell? ⟨g, 0, none⟩ = some (.int .i32 y) := (hb7.cell (p := ⟨g, 0, none⟩) hgs).trans hc0
      have g1 : w7.cell? ⟨g, 1, none⟩ = some (.int .i32 z) := (hb7.cell (p := ⟨g, 1, none⟩) hgs).trans hc1
      clear hr1 hb1 hr2 hb2 hcl hso hcell' hb7 hc0 hc1 HB5
      go_loopg [55] mm (fun k s55 wr => ∃ j : Nat, s55 = .int .i64 (j : Int) ∧ j ≤ mm ∧ mm - j ≤ k ∧ Hid (∀ t, t < j → (srt l).getD t 0 ≠ d2) ∧ w7 = wr)
      case atStart => exact ⟨0, rfl, Nat.zero_le _, by omega, fun t ht => absurd ht (Nat.not_lt_zero _), rfl⟩
      case round =>
        obtain ⟨j, rfl, hj, hjk, HNE, rfl⟩ := hrel
        by_cases hjm : j < mm
        · have hjz : (j : Int) < (mm : Int) := by omega
          obtain ⟨ga, eA, hg1, hg2, hgc⟩ := HR7.out.at.2 j hjm
          subst eA
          by_cases hd : (srt l).getD j 0 = d2
          · obtain ⟨rfl, rfl, rfl⟩ := HT.out j hjm HNE.out hd
            have hwj := wrap32 j (by omega)
            rw [hd] at hgc
            go_wp2_with fail
            go_ret
            exact ⟨by simp, HB7.out⟩
          · have hdz : ((srt l).getD j 0 == d2) = false := beq_eq_false_iff_ne.2 hd
            have HNE2 : Hid (∀ t, t < j + 1 → (srt l).getD t 0 ≠ d2) := by
              intro t ht
              rcases Nat.lt_or_eq_of_le (Nat.le_of_lt_succ ht) with h | h
              · exact HNE.out t h
              · subst h; exact hd
            clear hd HNE
            generalize (srt l).getD j 0 = v at hgc hdz
            go_wp2_with fail
            go_roundg (mm - (j + 1))
            case measure => omega
            case rel => exact ⟨j + 1, by go_num, by omega, Nat.le_refl _, HNE2, rfl⟩
        · have hjz : ¬ ((j : Int) < (mm : Int)) := by omega
          have hokf : ok = false := HFF.out (fun t ht => HNE.out t (by omega))
          subst hokf
          go_wp2_with fail
          go_ret
          exact ⟨rfl, HB7.out⟩
    · obtain rfl : x = n := by omega
      have hokf : ok = false := by
        rw [HOK.out]
        have : fo (x + 1) = fo x := HFE.out
        simp; omega
      subst hokf
      go_wp2_with fail
      go_ret
      exact ⟨rfl, HB5.out⟩
end Go.Proofs.Ybulkzhy

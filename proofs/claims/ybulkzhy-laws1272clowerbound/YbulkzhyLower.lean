/-
  LawS1272CLowerBound.
-/
import Derived.Test.YbulkzhySeeded
import Derived.Test.YbulkzhyTable
import Derived.Test.YbulkzhyBelow
namespace Go.Proofs.Ybulkzhy
open Go.RowKit
set_option linter.unusedVariables false

set_option maxRecDepth 100000 in
set_option maxHeartbeats 4000000 in
theorem lower_any (a : Option Addr) (n c : Nat) (ds : List (List Int)) (w : World) (hn : n ≤ maxLen) (hl : ds.length = n) (hL : RowsAt w a n ds) (sel sel2 : Nat) (h1 : sel < 65536) (h2 : sel2 < 65536) (pk : Bool) (d : Int) :
    Calls Yba.prog 5 #[.slice a n c, .int .u16 sel, .int .u16 sel2, .bool pk, .int .i32 d] w fun e w' => e = .returned (.bool true) ∧ Below w.heap.size w w' := by
  have hb := build_any a n c ds w hn hl hL
  have HL : Hid (ds.length = n) := hl
  clear hl hL
  go_enter Yba.func5, Yba.ntmps5
  go_wp2_with (go_at_call 9; refine hb.mono ?_; rintro e w1 (⟨rfl, hb1⟩ | ⟨rfl, hsm, htab, hown⟩))
  · go_ret
    exact ⟨rfl, hb1⟩
  · have hsm2 : n ≤ 1024 ∧ offs ds n ≤ 65536 := hsm
    obtain ⟨D, K, X, hv, hF, -⟩ := tab_view HL.out hsm2.1 hsm2.2 htab hown
    have HB : Hid (Below w.heap.size w w1) := htab.below
    generalize offs ds n = m at hv hF
    generalize offs ds = fo at hv hF
    have hpick := pick_any w.heap.size n m fo D K X w1 hv hF sel sel2 h1 h2 pk d
    obtain ⟨x, hx⟩ : ∃ x, x = sel % (n + 1) := ⟨_, rfl⟩
    have hxn : x ≤ n := by rw [hx]; exact Nat.le_of_lt_succ (Nat.mod_lt _ (by omega))
    rw [← hx] at hpick
    clear hx hsm htab hown
    refine hpick.mono ?_
    rintro e w2 ⟨d2, rfl, q, rfl⟩
    clear hpick
    have hseed := seeded_any w.heap.size n m fo D K X (w1.drewN q) (hv.keep ((Below.refl _ _).drewN q)) hF x hxn d2
    have hplace : ∀ p, fo x ≤ p → p < fo (x + 1) → (D p < d2 ↔ p < fo x + below D (fo x) (fo (x + 1) - fo x) d2) := fun p a b => run_place hF hxn d2 a b
    have hbl := below_le D (fo x) (fo (x + 1) - fo x) d2
    have hmo := hF.mono x hxn
    obtain ⟨i, hi⟩ : ∃ i, i = fo x + below D (fo x) (fo (x + 1) - fo x) d2 := ⟨_, rfl⟩
    rw [← hi] at hseed
    simp only [← hi] at hplace
    have hi1 : fo x ≤ i ∧ i ≤ fo (x + 1) := by omega
    have hwx := wrap32 x (by omega)
    have hsmall := hF.small
    have HSO : Hid (∀ p q, fo x ≤ p → p < q → q < fo (x + 1) → D p ≤ D q) := fun p q a b c => hF.sorted x p q hxn a b c
    have HV : Hid (TV w.heap.size n m fo D K X w1) := hv
    have HPL : Hid (∀ p, fo x ≤ p → p < fo (x + 1) → (D p < d2 ↔ p < i)) := hplace
    clear hi hbl hv hF hplace hb
    obtain ⟨ok, hok⟩ : ∃ ok, ok = (decide (i < fo (x + 1)) && decide (D i = d2)) := ⟨_, rfl⟩
    rw [← hok] at hseed
    have HOK : Hid (ok = (decide (i < fo (x + 1)) && decide (D i = d2))) := hok
    clear hok
    go_wp2_with (go_at_call 11; refine hseed.mono ?_; rintro e w3 ⟨rfl, hb3⟩)
    have hb4 : Below w1.heap.size w1 w3 := ((Below.refl w1.heap.size w1).drewN q).trans hb3
    have hv3 := HV.out.keep hb4
    have HB3 : Hid (Below w.heap.size w w3) := HB.out.trans (hb4.mono HB.out.size)
    have ht0 := hv3.t0
    have ht1 := hv3.t1
    have hf0 := hv3.first x (by omega)
    have hf1 := hv3.first (x + 1) (by omega)
    have HSD : Hid (∀ p, p < m → w3.cell? ⟨w.heap.size + 3, p * 3, none⟩ = some (.int .i32 (D p))) := hv3.sd
    clear hv3 hb4 hb3 HV HB hseed
    obtain ⟨s, hs⟩ : ∃ s, s = fo x := ⟨_, rfl⟩
    obtain ⟨e, he⟩ : ∃ e, e = fo (x + 1) := ⟨_, rfl⟩
    rw [← hs] at hf0 hmo hi1 HPL HSO
    rw [← he] at hf1 hmo hi1 HPL HOK HSO
    clear hs he
    have hxz : (x : Int) < (n : Int) + 2 := by omega
    have hxz1 : (x : Int) + 1 < (n : Int) + 2 := by omega
    go_big_quiet (fail)
    go_wp2_with fail
    have ht1' : (w3.drewN nq).cell? ⟨w.heap.size + 2, 1, none⟩ = some (.slice (some ⟨w.heap.size + 3, 0, none⟩) m m) := ht1
    have HSD' : Hid (∀ p, p < m → (w3.drewN nq).cell? ⟨w.heap.size + 3, p * 3, none⟩ = some (.int .i32 (D p))) := HSD
    have HB4 : Hid (Below w.heap.size w (w3.drewN nq)) := HB3.out.drewN nq
    clear ht0 ht1 hf0 hf1 HSD HB3
    generalize w3.drewN nq = W4 at ht1' HSD' HB4 ⊢
    have HT : Hid (∀ j, s ≤ j → j < e → D j = d2 → ok = true) := by
      intro j h3 h4 h5
      have hp := HPL.out j h3 h4
      have hij : i ≤ j := by omega
      have hp2 := HPL.out i hi1.1 (by omega)
      have hle : D i ≤ D j := by
        rcases Nat.lt_or_eq_of_le hij with h | h
        · exact HSO.out i j hi1.1 h h4
        · rw [h]; exact Int.le_refl _
      rw [HOK.out]
      simp only [Bool.and_eq_true, decide_eq_true_eq]
      exact ⟨by omega, by omega⟩
    have HFF : Hid ((∀ p, s ≤ p → p < e → D p ≠ d2) → ok = false) := by
      intro h
      rw [HOK.out]
      by_cases hie : i < e
      · simp [hie, h i hi1.1 hie]
      · simp [hie]
    clear HOK HSO
    go_loopg [18, 19] (e - s) (fun k s18 s19 wr => ∃ j : Nat, s18 = .int .i64 (e : Int) ∧ s19 = .int .i64 (j : Int) ∧ s ≤ j ∧ j ≤ i ∧ e - j ≤ k ∧ W4 = wr)
    case atStart => exact ⟨s, rfl, rfl, Nat.le_refl _, hi1.1, by omega, rfl⟩
    case round =>
      obtain ⟨j, rfl, rfl, hj1, hj2, hjk, rfl⟩ := hrel
      by_cases hje : j < e
      · have hjz : (j : Int) < (e : Int) := by omega
        have hjm : (j : Int) < (m : Int) := by omega
        have hc := HSD'.out j (by omega)
        have hp := HPL.out j hj1 hje
        by_cases hd : d2 ≤ D j
        · obtain rfl : j = i := by omega
          clear hp
          go_wp2_with fail
          clear hc
          go_loopg [20, 21] (e - s) (fun k s20 s21 wr => ∃ j : Nat, s20 = .bool false ∧ s21 = .int .i64 (j : Int) ∧ s ≤ j ∧ j ≤ e ∧ e - j ≤ k ∧ Hid (∀ p, s ≤ p → p < j → D p ≠ d2) ∧ W4 = wr)
          case atStart => exact ⟨s, rfl, rfl, Nat.le_refl _, by omega, by omega, fun p h3 h4 => by omega, rfl⟩
          case round =>
            obtain ⟨j, rfl, rfl, hj1, hj2, hjk, HNE, rfl⟩ := hrel
            by_cases hje : j < e
            · have hjz : (j : Int) < (e : Int) := by omega
              have hjm : (j : Int) < (m : Int) := by omega
              have hc := HSD'.out j (by omega)
              by_cases hd : D j = d2
              · have hokt : ok = true := HT.out j hj1 hje hd
                have hdz : (D j == d2) = true := by simp [hd]
                go_wp2_with fail
                go_ret
                exact ⟨by simp [hokt], HB4.out⟩
              · have hdz : (D j == d2) = false := by simp [hd]
                go_wp2_with fail
                go_roundg (e - (j + 1))
                case measure => omega
                case rel => exact ⟨j + 1, rfl, by go_num, by omega, by omega, Nat.le_refl _, (fun p h3 h4 => by
                    rcases Nat.lt_or_eq_of_le (Nat.le_of_lt_succ h4) with h | h
                    · exact HNE.out p h3 h
                    · subst h; exact hd), rfl⟩
            · have hjz : ¬ ((j : Int) < (e : Int)) := by omega
              have hokf : ok = false := HFF.out (fun p h3 h4 => HNE.out p h3 (by omega))
              go_wp2_with fail
              go_ret
              exact ⟨by simp, HB4.out⟩
        · have hji : j < i := by omega
          clear hp
          go_wp2_with fail
          go_roundg (e - (j + 1))
          case measure => omega
          case rel => exact ⟨j + 1, rfl, by go_num, by omega, by omega, Nat.le_refl _, rfl⟩
      · have hjz : ¬ ((j : Int) < (e : Int)) := by omega
        obtain rfl : i = e := by omega
        go_wp2_with fail
        go_loopg [20, 21] (i - s) (fun k s20 s21 wr => ∃ j : Nat, s20 = .bool false ∧ s21 = .int .i64 (j : Int) ∧ s ≤ j ∧ j ≤ i ∧ i - j ≤ k ∧ Hid (∀ p, s ≤ p → p < j → D p ≠ d2) ∧ W4 = wr)
        case atStart => exact ⟨s, rfl, rfl, Nat.le_refl _, by omega, by omega, fun p h3 h4 => by omega, rfl⟩
        case round =>
          obtain ⟨j, rfl, rfl, hj1, hj2, hjk, HNE, rfl⟩ := hrel
          by_cases hje : j < i
          · have hjz : (j : Int) < (i : Int) := by omega
            have hjm : (j : Int) < (m : Int) := by omega
            have hc := HSD'.out j (by omega)
            by_cases hd : D j = d2
            · have hokt : ok = true := HT.out j hj1 hje hd
              have hdz : (D j == d2) = true := by simp [hd]
              go_wp2_with fail
              go_ret
              exact ⟨by simp [hokt], HB4.out⟩
            · have hdz : (D j == d2) = false := by simp [hd]
              go_wp2_with fail
              go_roundg (i - (j + 1))
              case measure => omega
              case rel => exact ⟨j + 1, rfl, by go_num, by omega, by omega, Nat.le_refl _, (fun p h3 h4 => by
                  rcases Nat.lt_or_eq_of_le (Nat.le_of_lt_succ h4) with h | h
                  · exact HNE.out p h3 h
                  · subst h; exact hd), rfl⟩
          · have hjz : ¬ ((j : Int) < (i : Int)) := by omega
            have hokf : ok = false := HFF.out (fun p h3 h4 => HNE.out p h3 (by omega))
            go_wp2_with fail
            go_ret
            exact ⟨by simp, HB4.out⟩
end Go.Proofs.Ybulkzhy

/-
  LawS1272ASet, out of the contracts.
-/
import Derived.Test.YbulkzhyHas
namespace Go.Proofs.Ybulkzhy
open Go.RowKit Plain
set_option linter.unusedVariables false

set_option maxRecDepth 100000 in
set_option maxHeartbeats 400000 in
theorem set_long (a : Option Addr) (n c : Nat) (w : World) (hn : 1024 < n) (hm : n ≤ maxLen) :
    Calls Yba.prog 3 #[.slice a n c] w fun e w' => e = .returned (.bool true) ∧ Below w.heap.size w w' := by
  unfold maxLen at hm
  go_enter Yba.func3, Yba.ntmps3
  go_wp2
  go_ret
  exact ⟨rfl, Below.refl _ _⟩

theorem getD_lt {U : List Int} (h : U.Pairwise (· < ·)) {d : Nat} (hd : d + 1 < U.length) : U.getD d 0 < U.getD (d + 1) 0 := by
  have := List.pairwise_iff_getElem.1 h d (d + 1) (by omega) hd (by omega)
  simpa [show d < U.length by omega, hd] using this
theorem mem_ends {ps : List (Int × Int)} {k : Nat} (h : k < ps.length) : (ps.getD k (0, 0)).1 ∈ ends ps ∧ (ps.getD k (0, 0)).2 ∈ ends ps := by
  have hm : ps[k] ∈ ps := List.getElem_mem h
  have e : ps.getD k (0, 0) = ps[k] := by simp [h]
  rw [e]
  exact ⟨List.mem_flatMap.2 ⟨_, hm, by simp⟩, List.mem_flatMap.2 ⟨_, hm, by simp⟩⟩
theorem ends_mem {ps : List (Int × Int)} {x : Int} (h : x ∈ ends ps) : ∃ k, k < ps.length ∧ ((ps.getD k (0, 0)).1 = x ∨ (ps.getD k (0, 0)).2 = x) := by
  obtain ⟨p, hp, hx⟩ := List.mem_flatMap.1 h
  obtain ⟨k, hk, e⟩ := List.getElem_of_mem hp
  refine ⟨k, hk, ?_⟩
  have : ps.getD k (0, 0) = p := by simp [hk, e]
  rw [this]
  simp at hx
  rcases hx with h | h
  · exact .inl h.symm
  · exact .inr h.symm

set_option maxRecDepth 100000 in
set_option maxHeartbeats 4000000 in
theorem set_short (a : Option Addr) (n c : Nat) (ps : List (Int × Int)) (w : World) (hn : n ≤ 1024) (hl : ps.length = n) (hL : LinksAt w a n ps) :
    Calls Yba.prog 3 #[.slice a n c] w fun e w' => e = .returned (.bool true) ∧ Below w.heap.size w w' := by
  have hd : decide (1024 < (n : Int)) = false := by simp; omega
  have HL : Hid (ps.length = n) := hl
  have HLk : Hid (LinksAt w a n ps) := hL
  go_enter Yba.func3, Yba.ntmps3
  go_wp2_with fail
  refine (uniq_any a n c ps w hn hl hL).mono ?_
  rintro e w1 ⟨v, ts, rfl, hP, hW, hown, hB⟩
  obtain ⟨f1, f2, f3⟩ := uniq_facts ts hW
  have HU : Hid ((uniq ts).Pairwise (· < ·)) := f2
  have HM : Hid (∀ x, x ∈ uniq ts ↔ x ∈ ends ps) := fun x => (f3 x).trans hP.mem_iff
  have hul : (uniq ts).length ≤ 2048 := by
    have h1 := uniq_length ts
    have h2 := hP.length_eq
    rw [ends_length] at h2
    omega
  obtain ⟨ga, cap, hv, hR⟩ := row_of_owns rfl hown
  rw [hv]
  clear hv hown f1 f2 f3 hP hW hl hL
  generalize hU : uniq ts = U at HU HM hul hR
  have HUl : Hid (∃ un, U.length = un) := ⟨_, rfl⟩
  clear hU
  obtain ⟨un, hun⟩ := HUl.out
  rw [hun]
  rw [hun] at hul hR
  have HUn : Hid (U.length = un) := hun
  have HR : Hid (RowAt w1 ga un U) := hR
  have HB1 : Hid (Below w.heap.size w w1) := hB
  have hw1 := hB.size
  clear hun HUl hR hB
  go_wp2_with fail
  go_loopw [4] (fun i wr => ∃ k : Nat, 1 ≤ k ∧ k ≤ un + 1 ∧ i = .int .i64 k ∧ Below w1.heap.size w1 wr) (fun i _ => un + 1 - (intOf i).toNat)
  case atStart => exact ⟨1, by omega, by omega, rfl, Below.refl _ _⟩
  case round =>
    obtain ⟨k, hk1, hk2, rfl, hB⟩ := hrel
    obtain ⟨d, rfl⟩ : ∃ d, k = d + 1 := ⟨k - 1, by omega⟩
    by_cases hlt : d + 1 < un
    · obtain ⟨b, off, ea, hb, hc1⟩ := (HR.out.below hB) d (by omega)
      obtain ⟨b', off', ea', _, hc2⟩ := (HR.out.below hB) (d + 1) hlt
      subst ea
      cases ea'
      have hxy := getD_lt HU.out (d := d) (by rw [HUn.out]; exact hlt)
      generalize U.getD d 0 = x at hc1 hxy
      generalize U.getD (d + 1) 0 = y at hc2 hxy
      go_wp2
      go_quiet (fail)
      go_wp2
      exact ⟨⟨d + 1 + 1, by omega, by omega, by go_num, below_drewN hB _⟩, by simp [intOf]; omega⟩
    · have HB2 : Hid (Below w1.heap.size w1 wr) := hB
      have hwr := hB.size
      clear hB
      go_wp2_with fail
      obtain ⟨w2, rfl⟩ : ∃ w2 : World, w2 = wr := ⟨_, rfl⟩
      have HBW : Hid (Below w.heap.size w w2) := HB1.out.trans (HB2.out.mono hw1)
      have HR2 : Hid (RowAt w2 ga un U) := HR.out.below HB2.out
      go_loopw [5] (fun i wr => ∃ k : Nat, k ≤ n ∧ i = .int .i64 k ∧ Below w2.heap.size w2 wr) (fun i _ => n - (intOf i).toNat)
      case atStart => exact ⟨0, Nat.zero_le _, rfl, Below.refl _ _⟩
      case round =>
        obtain ⟨k, hk, rfl, hBk⟩ := hrel
        have HBk : Hid (Below w2.heap.size w2 wr) := hBk
        have hszk := hBk.size
        clear hBk
        by_cases hlt2 : k < n
        · obtain ⟨b, off, ea, hb, hc1, hc2⟩ := (HLk.out.below (HBW.out.trans (HBk.out.mono (by omega)))) k hlt2
          subst ea
          have hm := mem_ends (ps := ps) (k := k) (by rw [HL.out]; exact hlt2)
          have hx := (HM.out _).2 hm.1
          have hy := (HM.out _).2 hm.2
          clear hm
          generalize (ps.getD k (0, 0)).1 = x at hc1 hx
          generalize (ps.getD k (0, 0)).2 = y at hc2 hy
          have H1 := has_yes ga un cap U x wr (by omega) HUn.out (HR2.out.below HBk.out) hx
          have H2 := has_yes ga un cap U y wr (by omega) HUn.out (HR2.out.below HBk.out) hy
          have HH1 : Hid (Calls Yba.prog 8 #[.slice ga un cap, .int .i64 x] wr fun e w' => e = .returned (.bool true) ∧ wr = w') := H1.mono fun e w' h => ⟨h.1, h.2.symm⟩
          have HH2 : Hid (Calls Yba.prog 8 #[.slice ga un cap, .int .i64 y] wr fun e w' => e = .returned (.bool true) ∧ wr = w') := H2.mono fun e w' h => ⟨h.1, h.2.symm⟩
          clear H1 H2 hx hy
          go_wp2_with fail
          refine HH1.out.mono ?_
          rintro e w' ⟨rfl, rfl⟩
          go_wp2_with fail
          refine HH2.out.mono ?_
          rintro e w' ⟨rfl, rfl⟩
          go_wp2
          go_roundw
          case rel => (repeat apply Exists.intro); exact ⟨⟨k + 1, by omega, by go_num, HBk.out⟩, rfl⟩
          case measure => simp [intOf]; omega
        · obtain ⟨w2', rfl⟩ : ∃ w2' : World, w2' = wr := ⟨_, rfl⟩
          have HBW' : Hid (Below w.heap.size w w2') := HBW.out.trans (HBk.out.mono (by omega))
          have HR2' : Hid (RowAt w2' ga un U) := HR2.out.below HBk.out
          clear HBW HR2 HBk
          have hsz2 := HBW'.out.size
          go_wp2_with fail
          go_loopw [6] (fun i wr => ∃ k : Nat, k ≤ un ∧ i = .int .i64 k ∧ Below w2'.heap.size w2' wr) (fun i _ => un - (intOf i).toNat)
          case atStart => exact ⟨0, Nat.zero_le _, rfl, Below.refl _ _⟩
          case round =>
            obtain ⟨i, hi, rfl, hB3⟩ := hrel
            by_cases hlt3 : i < un
            · obtain ⟨wo, rfl⟩ : ∃ wo : World, wo = wr := ⟨_, rfl⟩
              have HB3 : Hid (Below w2'.heap.size w2' wo) := hB3
              have hwo := hB3.size
              clear hB3
              obtain ⟨gb, goff, ea, hgb, hg0⟩ := (HR2'.out.below HB3.out) i hlt3
              subst ea
              have hmem : Hid (U.getD i 0 ∈ ends ps) := (HM.out _).1 (by rw [List.getD_eq_getElem?_getD, List.getElem?_eq_getElem (by rw [HUn.out]; exact hlt3)]; simp)
              generalize U.getD i 0 = x at hg0 hmem
              go_wp2_with fail
              go_loopw [7, 8] (fun f jv wr => ∃ j : Nat, j ≤ n ∧ f = .bool false ∧ jv = .int .i64 j ∧ Hid (∀ t, t < j → (ps.getD t (0, 0)).1 ≠ x ∧ (ps.getD t (0, 0)).2 ≠ x) ∧ Below wo.heap.size wo wr) (fun _ jv _ => n - (intOf jv).toNat)
              case atStart => exact ⟨0, Nat.zero_le _, rfl, rfl, fun t ht => absurd ht (by omega), Below.refl _ _⟩
              case round =>
                obtain ⟨j, hj, rfl, rfl, hno, hB4⟩ := hrel
                by_cases hlt4 : j < n
                · have hBW4 : Below w.heap.size w wr := HBW'.out.trans ((HB3.out.trans (hB4.mono hwo)).mono (by omega))
                  obtain ⟨b, off, ea, hb, hc1, hc2⟩ := (HLk.out.below hBW4) j hlt4
                  subst ea
                  have hg1 : wr.cell? ⟨gb, goff + i, none⟩ = some (.int .i64 x) := (hB4.cell (p := ⟨gb, goff + i, none⟩) hgb).trans hg0
                  have hstep : Hid ((ps.getD j (0, 0)).1 ≠ x → (ps.getD j (0, 0)).2 ≠ x → ∀ t, t < j + 1 → (ps.getD t (0, 0)).1 ≠ x ∧ (ps.getD t (0, 0)).2 ≠ x) := fun h1 h2 t ht => by
                    by_cases e : t = j
                    · subst e; exact ⟨h1, h2⟩
                    · exact hno.out t (by omega)
                  have HB4 : Hid (Below wo.heap.size wo wr) := hB4
                  clear hB4 hBW4 hg0
                  generalize (ps.getD j (0, 0)).1 = p at hc1 hstep
                  generalize (ps.getD j (0, 0)).2 = q at hc2 hstep
                  by_cases hp : p = x
                  · have hb1 : (p == x) = true := by simp [hp]
                    clear hp
                    go_wp2_with fail
                    go_quiet (fail)
                    go_wp2
                    exact ⟨⟨i + 1, by omega, by go_num, below_drewN (HB3.out.trans (HB4.out.mono hwo)) _⟩, by simp [intOf]; omega⟩
                  · have hb1 : (p == x) = false := by simp [hp]
                    have HP : Hid (p ≠ x) := hp
                    clear hp
                    by_cases hq : q = x
                    · have hb2 : (q == x) = true := by simp [hq]
                      clear hq
                      go_wp2_with fail
                      go_quiet (fail)
                      go_wp2
                      exact ⟨⟨i + 1, by omega, by go_num, below_drewN (HB3.out.trans (HB4.out.mono hwo)) _⟩, by simp [intOf]; omega⟩
                    · have hb2 : (q == x) = false := by simp [hq]
                      have HQ : Hid (q ≠ x) := hq
                      clear hq
                      go_wp2_with fail
                      go_quiet (fail)
                      go_wp2
                      go_roundw
                      case rel => exact ⟨j + 1, by omega, rfl, by go_num, hstep.out HP.out HQ.out, below_drewN HB4.out _⟩
                      case measure => simp [intOf]; omega
                · exfalso
                  obtain ⟨t, ht, h⟩ := ends_mem hmem.out
                  have := hno.out t (by have := HL.out; omega)
                  rcases h with h | h
                  · exact this.1 h
                  · exact this.2 h
            · have HB3 : Hid (Below w2'.heap.size w2' wr) := hB3
              clear hB3
              go_wp2
              go_ret
              exact ⟨rfl, HBW'.out.trans (HB3.out.mono (by omega))⟩
end Go.Proofs.Ybulkzhy

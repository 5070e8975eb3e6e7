/-
  LawS1272ACount, out of the contracts.
-/
import Derived.Test.YbulkzhyHas
import Derived.Deep.RegionHeld3
import Derived.Deep.AppendLies
namespace Go.Proofs.Ybulkzhy
open Go.RowKit Plain
set_option linter.unusedVariables false

set_option maxRecDepth 100000 in
set_option maxHeartbeats 400000 in
theorem count_long (a : Option Addr) (n c : Nat) (w : World) (hn : 1024 < n) (hm : n ≤ maxLen) :
    Calls Yba.prog 4 #[.slice a n c] w fun e w' => e = .returned (.bool true) ∧ Below w.heap.size w w' := by
  unfold maxLen at hm
  go_enter Yba.func4, Yba.ntmps4
  go_wp2
  go_ret
  exact ⟨rfl, Below.refl _ _⟩

theorem cnt_take {E : List Int} {i : Nat} (h : i < E.length) : cnt (E.take (i + 1)) = if E.getD i 0 ∈ E.take i then cnt (E.take i) else cnt (E.take i) + 1 := by
  rw [List.take_succ_eq_append_getElem h, cnt_snoc]; simp [h]
theorem cnt_le : ∀ E : List Int, cnt E ≤ E.length := by
  intro E
  have h1 := (firsts_facts E)
  rw [← h1.2.2]
  exact length_le_of_sub _ _ h1.1 fun x hx => (h1.2.1 x).1 hx

set_option maxRecDepth 100000 in
set_option maxHeartbeats 4000000 in
theorem count_short (a : Option Addr) (n c : Nat) (ps : List (Int × Int)) (w : World) (hn : n ≤ 1024) (hl : ps.length = n) (hL : LinksAt w a n ps) :
    Calls Yba.prog 4 #[.slice a n c] w fun e w' => e = .returned (.bool true) ∧ Below w.heap.size w w' := by
  obtain ⟨i0, hi, hz0, hz1, hz2⟩ := info_parts Yba.info25
  have hd : decide (1024 < (n : Int)) = false := by simp; omega
  have hmk := run_make23 n (by omega)
  have HL : Hid (ps.length = n) := hl
  have HLk : Hid (LinksAt w a n ps) := hL
  go_enter Yba.func4, Yba.ntmps4
  go_wp2_with fail
  refine (uniq_any a n c ps w hn hl hL).mono ?_
  rintro e w1 ⟨v, ts, rfl, hP, hW, hown, hB⟩
  have hcn := uniq_count (ends ps) ts hW hP
  have hel := ends_length ps
  rw [hl] at hel
  have hcl := cnt_le (ends ps)
  obtain ⟨ga, cap, hv, hR⟩ := row_of_owns rfl hown
  rw [hv, hcn]
  clear hv hown hcn hP hW hl hL hR
  generalize hE : ends ps = E at hel hcl
  have HE : Hid (ends ps = E) := hE
  have HEl : Hid (E.length = 2 * n) := hel
  rw [hel] at hcl
  obtain ⟨un, hun⟩ : ∃ un, cnt E = un := ⟨_, rfl⟩
  rw [hun]
  rw [hun] at hcl
  have HUn : Hid (cnt E = un) := hun
  have HB1 : Hid (Below w.heap.size w w1) := hB
  have hw1 := hB.size
  clear hun hB hE hel
  go_wp2_with fail
  have hown0 : (w1.alloc (.cells (madeCells #[.int .i64 0] (2 * n)) 25)).ownsRow w1.heap.size 25 1 (.slice (some ⟨w1.heap.size, 0, none⟩) 0 (2 * n)) 0 [] := World.ownsRow_made w1 _ (2 * n) (Nat.le_refl _) (by unfold maxLen; omega) (by rw [size_madeCells]; omega)
  have hb0 : Below w1.heap.size w1 (w1.alloc (.cells (madeCells #[.int .i64 0] (2 * n)) 25)) := (Below.refl _ _).alloc (Nat.le_refl _) _
  clear hmk
  go_loopw [4, 5] (fun v i wr => ∃ k g cp : Nat, k ≤ n ∧ i = .int .i64 k ∧ v = .slice (some ⟨g, 0, none⟩) (2 * k) cp ∧ wr.ownsRow w1.heap.size 25 1 (.slice (some ⟨g, 0, none⟩) (2 * k) cp) (2 * k) ((ends (ps.take k)).map (Value.int .i64)) ∧ Below w1.heap.size w1 wr) (fun _ i _ => n - (intOf i).toNat)
  case atStart => exact ⟨0, w1.heap.size, 2 * n, Nat.zero_le _, rfl, rfl, hown0, hb0⟩
  case round =>
    clear hown0 hb0
    obtain ⟨k, g, cp, hk, rfl, rfl, hown, hB⟩ := hrel
    by_cases hlt : k < n
    · obtain ⟨b, off, ea, hbw, hc1, hc2⟩ := (HLk.out.below (HB1.out.trans (hB.mono hw1))) k hlt
      subst ea
      have hES : Hid (ends (ps.take (k + 1)) = ends (ps.take k) ++ [(ps.getD k (0, 0)).1, (ps.getD k (0, 0)).2]) := ends_snoc (by rw [HL.out]; exact hlt)
      generalize (ps.getD k (0, 0)).1 = x at hc1 hES
      generalize (ps.getD k (0, 0)).2 = y at hc2 hES
      have hwr := hB.size
      have hg := own_lt hown
      have hbg : some b ≠ (Value.slice (some ⟨g, 0, none⟩) (2 * k) cp).ownBlock := by simp [Value.ownBlock]; omega
      have hbr : b < wr.heap.size := by omega
      have i1 : (0 : Int) ≤ (k : Int) := by omega
      have i2 : (k : Int) < (n : Int) := by omega
      have HB : Hid (Below w1.heap.size w1 wr) := hB
      clear hB
      go_wp2_with fail
      go_region_held3 (fun w' => w'.cell? ⟨b, off + k * 2, none⟩ = some (.int .i64 x) ∧ w'.cell? ⟨b, off + k * 2 + 1, none⟩ = some (.int .i64 y)) (first | (go_keep; done) | (go_split_ands; refine ⟨?_, ?_⟩; (rw [hgrow.cell_far _ (by simp; omega) hbg]; assumption); (rw [hgrow.cell_far _ (by simp; omega) hbg]; assumption))) ((refine step_append_lies _ (by rfl) _ _ _ (by rfl) w1.heap.size 25 i0 (.int .i64 0) 1 8 Yba.underlying23 hi hz0 hz1 hz2 rfl (by omega) (.slice (some ⟨g, 0, none⟩) (2 * k) cp) (2 * k) ((ends (ps.take k)).map (Value.int .i64)) (by rfl) ((hown.alloc _).drew) ⟨wr.heap.size, 0, none⟩ 2 2 [.int .i64 x, .int .i64 y] (by rfl) (by rfl) (World.news_of_block (cs := #[.int .i64 x, .int .i64 y]) (t := 25) (fr := (0, 0)) (heap_alloc_new wr _)) (by simp [Value.oneCell']) (by omega) (by unfold maxLen; omega) (by omega) (by simp; omega) (wr.heap.size + 1) (by simp) ?_; intro gg cap w2 hown1 hgrow hat hlt2))
      have hR : Hid (w2.ownsRow w1.heap.size 25 1 (.slice (some ⟨gg, 0, none⟩) (2 * (k + 1)) cap) (2 * (k + 1)) ((ends (ps.take (k + 1))).map (Value.int .i64)) ∧ Below w1.heap.size w1 w2) := by
        refine ⟨?_, ((HB.out.alloc hwr _).drew).grown hgrow (by simp; omega) (by simp [Value.ownBlock]; omega)⟩
        rw [hES.out, List.map_append]
        exact hown1
      clear hown1 hgrow hat hlt2 hown
      go_wp2
      go_roundw
      case rel => exact ⟨k + 1, gg, cap, by omega, by go_num, rfl, hR.out.1, hR.out.2⟩
      case measure => simp [intOf]; omega
    · have e : k = n := by omega
      subst e
      have hRow : RowAt wr (some ⟨g, 0, none⟩) (2 * k) E := by
        rw [List.take_of_length_le (by rw [HL.out]; exact Nat.le_refl _), HE.out] at hown
        obtain ⟨a', cp', e', hr⟩ := row_of_owns HEl.out hown
        cases e'
        exact hr
      have HRow : Hid (RowAt wr (some ⟨g, 0, none⟩) (2 * k) E) := hRow
      have hcap : 2 * k ≤ cp := by
        rcases hown.2 with ⟨h0, _⟩ | ⟨g', cap', cur, hv, _, _, hnc, _⟩
        · cases h0
        · cases hv; exact hnc
      have hcm : cp ≤ 9223372036854775807 := by
        rcases hown.2 with ⟨h0, _⟩ | ⟨g', cap', cur, hv, _, _, _, hm, _⟩
        · cases h0
        · cases hv; exact hm
      have HB : Hid (Below w.heap.size w wr) := HB1.out.trans (hB.mono hw1)
      have hwr := HB.out.size
      clear hRow hown hB
      go_wp2_with fail
      obtain ⟨w3, rfl⟩ : ∃ w3 : World, w3 = wr := ⟨_, rfl⟩
      go_loopw [6, 7] (fun dv iv wr => ∃ i dc : Nat, i ≤ 2 * k ∧ iv = .int .i64 i ∧ dv = .int .i64 dc ∧ Hid (dc = cnt (E.take i)) ∧ Below w3.heap.size w3 wr) (fun _ iv _ => 2 * k - (intOf iv).toNat)
      case atStart => exact ⟨0, 0, Nat.zero_le _, rfl, rfl, rfl, Below.refl _ _⟩
      case round =>
        obtain ⟨i, dc, hi', rfl, rfl, hdc, hB⟩ := hrel
        have hdi : dc ≤ i := by
          rw [hdc.out]
          have := cnt_le (E.take i)
          have h2 : (E.take i).length ≤ i := List.length_take_le _ _
          omega
        by_cases hlt : i < 2 * k
        · have hr := HRow.out.below hB
          obtain ⟨b, off, ea, hbw, hc⟩ := hr i hlt
          cases ea
          have hct : Hid (cnt (E.take (i + 1)) = if E.getD i 0 ∈ E.take i then cnt (E.take i) else cnt (E.take i) + 1) := cnt_take (by rw [HEl.out]; exact hlt)
          have hrt := hr.take (m := i) (by omega)
          have hil : (E.take i).length = i := by rw [List.length_take, HEl.out]; omega
          have HBr : Hid (Below w3.heap.size w3 wr) := hB
          rw [Nat.zero_add] at hc
          clear hr hB
          generalize E.getD i 0 = x at hc hct
          by_cases hm : x ∈ E.take i
          · have H8 : ∀ w', Calls Yba.prog 8 #[.slice (some ⟨g, 0, none⟩) i cp, .int .i64 x] (wr.drewN w') fun e w'' => e = .returned (.bool true) ∧ w'' = wr.drewN w' := fun q => has_yes _ i cp (E.take i) x _ (by omega) hil hrt hm
            have HH : Hid (∀ q, Calls Yba.prog 8 #[.slice (some ⟨g, 0, none⟩) i cp, .int .i64 x] (wr.drewN q) fun e w'' => e = .returned (.bool true) ∧ w'' = wr.drewN q) := H8
            have hN : Hid (dc = cnt (E.take (i + 1))) := by
              have h1 := hct.out
              rw [if_pos hm] at h1
              exact hdc.out.trans h1.symm
            clear H8 hm hrt hil
            go_wp2_with fail
            go_quiet ((go_at_call 8; exact Calls.quiet_of_same (HH.out _)))
            go_wp2
            exact ⟨⟨i + 1, dc, by omega, by go_num, rfl, hN.out, below_drewN HBr.out _⟩, by simp [intOf]; omega⟩
          · have H8 : ∀ w', Calls Yba.prog 8 #[.slice (some ⟨g, 0, none⟩) i cp, .int .i64 x] (wr.drewN w') fun e w'' => e = .returned (.bool false) ∧ w'' = wr.drewN w' := fun q => has_no _ i cp (E.take i) x _ (by omega) hil hrt hm
            have HH : Hid (∀ q, Calls Yba.prog 8 #[.slice (some ⟨g, 0, none⟩) i cp, .int .i64 x] (wr.drewN q) fun e w'' => e = .returned (.bool false) ∧ w'' = wr.drewN q) := H8
            have hN : Hid (dc + 1 = cnt (E.take (i + 1))) := by
              have h1 := hct.out
              rw [if_neg hm] at h1
              have h2 := hdc.out
              show dc + 1 = _
              omega
            clear H8 hm hrt hil
            go_wp2_with fail
            go_quiet ((go_at_call 8; exact Calls.quiet_of_same (HH.out _)))
            go_wp2
            exact ⟨⟨i + 1, dc + 1, by omega, by go_num, by go_num, hN.out, below_drewN HBr.out _⟩, by simp [intOf]; omega⟩
        · have e : i = 2 * k := by omega
          subst e
          have hdn : dc = un := by
            have h1 := hdc.out
            rw [List.take_of_length_le (by rw [HEl.out]; exact Nat.le_refl _), HUn.out] at h1
            exact h1
          subst hdn
          have HBr : Hid (Below w3.heap.size w3 wr) := hB
          clear hB
          go_wp2
          go_ret
          exact ⟨by simp, HB.out.trans (HBr.out.mono (by omega))⟩
end Go.Proofs.Ybulkzhy

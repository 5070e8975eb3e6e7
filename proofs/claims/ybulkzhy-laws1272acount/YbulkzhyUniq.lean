/-
  uniqueIDs.
-/
import Derived.Test.YbulkzhySort
import Derived.Deep.OwnRows
import Derived.Deep.DeepAppendRoom
namespace Go.Proofs.Ybulkzhy
open Go.RowKit Plain
set_option linter.unusedVariables false

theorem Yba.info25 : (Yba.prog.info? 25).map (fun i => (i.zero, i.size, i.bytes)) = some (some (.int .i64 0), 1, 8) := by kernel_rfl

/-- The links as a loop reads them. -/
def LinksAt (w : World) (a : Option Addr) (len : Nat) (ps : List (Int × Int)) : Prop :=
  ∀ k, k < len → ∃ b off, a = some ⟨b, off, none⟩ ∧ b < w.heap.size ∧ w.cell? ⟨b, off + k * 2, none⟩ = some (.int .i64 (ps.getD k (0, 0)).1) ∧ w.cell? ⟨b, off + k * 2 + 1, none⟩ = some (.int .i64 (ps.getD k (0, 0)).2)
theorem LinksAt.below {w w' : World} {a : Option Addr} {len : Nat} {ps : List (Int × Int)} (h : LinksAt w a len ps) (hb : Below w.heap.size w w') :
    ∀ k, k < len → ∃ b off, a = some ⟨b, off, none⟩ ∧ b < w.heap.size ∧ w'.cell? ⟨b, off + k * 2, none⟩ = some (.int .i64 (ps.getD k (0, 0)).1) ∧ w'.cell? ⟨b, off + k * 2 + 1, none⟩ = some (.int .i64 (ps.getD k (0, 0)).2) := by
  intro k hk
  obtain ⟨b, off, e, hlt, h1, h2⟩ := h k hk
  exact ⟨b, off, e, hlt, (hb.cell (p := ⟨b, off + k * 2, none⟩) hlt).trans h1, (hb.cell (p := ⟨b, off + k * 2 + 1, none⟩) hlt).trans h2⟩

def ends (ps : List (Int × Int)) : List Int := ps.flatMap fun p => [p.1, p.2]
theorem ends_length (ps : List (Int × Int)) : (ends ps).length = 2 * ps.length := by
  induction ps with
  | nil => rfl
  | cons p ps ih => simp [ends] at ih ⊢; omega
theorem ends_snoc {ps : List (Int × Int)} {k : Nat} (h : k < ps.length) : ends (ps.take (k + 1)) = ends (ps.take k) ++ [(ps.getD k (0, 0)).1, (ps.getD k (0, 0)).2] := by
  rw [List.take_succ_eq_append_getElem h]
  unfold ends
  rw [List.flatMap_append]
  simp [h]

theorem run_make23 (n : Nat) (hn : n ≤ 4096) (w : World) :
    (Instr.makeSlice 23 (.int .i64 0) (.int .i64 (2 * (n : Int)))).run Yba.prog w = .ok (.slice (some ⟨w.heap.size, 0, none⟩) 0 (2 * n)) (w.alloc (.cells (madeCells #[.int .i64 0] (2 * n)) 25)) := by
  obtain ⟨i, hi, hz, hs, hb⟩ := info_parts Yba.info25
  have h := run_make (P := Yba.prog) w 23 25 i _ Yba.underlying23 hi hz .i64 .i64 0 (2 * (n : Int)) (by omega) (by omega) (by rw [hb]; omega) (by omega)
  rw [hs] at h
  rw [show (2 * (n : Int)).toNat = 2 * n by omega] at h
  simpa [Value.cells] using h

theorem own_lt {w : World} {base g n c : Nat} {xs : List Value} (h : w.ownsRow base 25 1 (.slice (some ⟨g, 0, none⟩) n c) n xs) : base ≤ g ∧ g < w.heap.size := h.lt g rfl

/-- The row in the midst of the second loop: the c items kept so far, then the rest as the sort left it. -/
def rowU (u ts : List Int) : Nat → Value := fun j => .int .i64 (if j < u.length then u.getD j 0 else ts.getD j 0)
theorem owns_row {w : World} {base g n : Nat} {ts : List Int} (hl : ts.length = n) (h : w.ownsRow base 25 1 (.slice (some ⟨g, 0, none⟩) n n) n (ts.map (Value.int .i64))) : w.rowIs g 25 n (rowU [] ts) := by
  rcases h.2 with ⟨h0, _⟩ | ⟨g', cap', cur, hv, hbase, hb, hnc, hcm, hcs, htake⟩
  · cases h0
  cases hv
  refine ⟨cur, hb, by omega, fun i hi => ?_⟩
  have : (cur.toList.take (n * 1))[i]? = (ts.map (Value.int .i64))[i]? := by rw [htake]
  rw [List.getElem?_take, if_pos (by omega), Array.getElem?_toList] at this
  rw [this]
  simp [rowU, hl, hi]
theorem row_keep {w : World} {g n : Nat} {u ts : List Int} {x : Int} (h : w.rowIs g 25 n (rowU u ts)) : (w.setCell ⟨g, u.length, none⟩ (.int .i64 x)).rowIs g 25 n (rowU (u ++ [x]) ts) := by
  refine (h.set u.length _).congr fun j _ => ?_
  unfold rowU
  by_cases e : j = u.length
  · subst e; simp
  · rw [if_neg e]
    by_cases e2 : j < u.length
    · rw [if_pos e2, if_pos (by simp; omega)]
      simp [List.getElem?_append_left e2]
    · rw [if_neg e2, if_neg (by simp; omega)]
theorem uniq_take {ts : List Int} {i : Nat} (h : i < ts.length) : uniq (ts.take (i + 1)) = stepU (uniq (ts.take i)) (ts.getD i 0) := by
  rw [List.take_succ_eq_append_getElem h, uniq_snoc]; simp [h]
theorem uniq_take_le {ts : List Int} {i : Nat} : (uniq (ts.take i)).length ≤ i := by
  have h1 := uniq_length (ts.take i)
  have h2 : (ts.take i).length ≤ i := List.length_take_le _ _
  omega
theorem step_nil {u : List Int} (x : Int) (h : u.length = 0) : stepU u x = u ++ [x] := by
  rw [List.length_eq_zero_iff.1 h]; simp [stepU]
theorem step_same {u : List Int} {c : Nat} {x : Int} (h : u.length = c + 1) (hx : x = u.getD c 0) : stepU u x = u := by
  unfold stepU
  rw [if_pos]
  rw [List.getLast?_eq_getElem?, h, hx]
  simp [h]
theorem step_other {u : List Int} {c : Nat} {x : Int} (h : u.length = c + 1) (hx : x ≠ u.getD c 0) : stepU u x = u ++ [x] := by
  unfold stepU
  rw [if_neg]
  rw [List.getLast?_eq_getElem?, h]
  intro e
  apply hx
  simp at e
  simp [e]

set_option maxRecDepth 100000 in
set_option maxHeartbeats 4000000 in
theorem uniq_any (a : Option Addr) (n c : Nat) (ps : List (Int × Int)) (w : World) (hn : n ≤ 1024) (hl : ps.length = n) (hL : LinksAt w a n ps) :
    Calls Yba.prog 7 #[.slice a n c] w fun e w' => ∃ v ts, e = .returned v ∧ ts.Perm (ends ps) ∧ ts.Pairwise (· ≤ ·) ∧ w'.ownsRow w.heap.size 25 1 v (uniq ts).length ((uniq ts).map (Value.int .i64)) ∧ Below w.heap.size w w' := by
  obtain ⟨i0, hi, hz0, hz1, hz2⟩ := info_parts Yba.info25
  have hmk := run_make23 n (by omega)
  have HL : Hid (ps.length = n) := hl
  clear hl
  go_enter Yba.func7, Yba.ntmps7
  go_wp2_with fail
  have hown0 : (w.alloc (.cells (madeCells #[.int .i64 0] (2 * n)) 25)).ownsRow w.heap.size 25 1 (.slice (some ⟨w.heap.size, 0, none⟩) 0 (2 * n)) 0 [] := World.ownsRow_made w _ (2 * n) (Nat.le_refl _) (by unfold maxLen; omega) (by rw [size_madeCells]; omega)
  have hb0 : Below w.heap.size w (w.alloc (.cells (madeCells #[.int .i64 0] (2 * n)) 25)) := (Below.refl _ _).alloc (Nat.le_refl _) _
  clear hmk
  go_loopw [3, 15] (fun v i wr => ∃ k : Nat, k ≤ n ∧ i = .int .i64 k ∧ v = .slice (some ⟨w.heap.size, 0, none⟩) (2 * k) (2 * n) ∧ wr.ownsRow w.heap.size 25 1 (.slice (some ⟨w.heap.size, 0, none⟩) (2 * k) (2 * n)) (2 * k) ((ends (ps.take k)).map (Value.int .i64)) ∧ Below w.heap.size w wr) (fun _ i _ => n - (intOf i).toNat)
  case atStart => exact ⟨0, Nat.zero_le _, rfl, rfl, hown0, hb0⟩
  case round =>
    clear hown0 hb0
    obtain ⟨k, hk, rfl, rfl, hown, hB⟩ := hrel
    by_cases hlt : k < n
    · obtain ⟨b, off, ea, hbw, hc1, hc2⟩ := hL.below hB k hlt
      subst ea
      have hE : Hid (ends (ps.take (k + 1)) = ends (ps.take k) ++ [(ps.getD k (0, 0)).1, (ps.getD k (0, 0)).2]) := ends_snoc (by rw [HL.out]; exact hlt)
      generalize (ps.getD k (0, 0)).1 = x at hc1 hE
      generalize (ps.getD k (0, 0)).2 = y at hc2 hE
      have hwr := hB.size
      have hlt0 := (own_lt hown).2
      have hown2 : ∀ o o' : Obj, ((wr.alloc o).alloc o').ownsRow w.heap.size 25 1 (.slice (some ⟨w.heap.size, 0, none⟩) (2 * k) (2 * n)) (2 * k) ((ends (ps.take k)).map (Value.int .i64)) := fun o o' => (hown.alloc o).alloc o'
      have hnews : ∀ j u, [Value.int .i64 x, .int .i64 y][j]? = some u → ((wr.alloc (.cells #[.int .i64 x, .int .i64 y] 28)).alloc (.cells #[.int .i64 x, .int .i64 y] 25)).cell? ((⟨wr.heap.size + 1, 0, none⟩ : Addr).add j) = some u := fun j u hu => by
        rw [Addr.add_lit, Nat.zero_add, World.cell?_alloc_at _ _ _ _ (by simp)]
        simpa using hu
      have hbr : b < wr.heap.size := by omega
      have HO := hown2
      clear hL
      go_wp2_with (at_builtin; refine wpList_append_own_spare _ rfl _ _ _ rfl w.heap.size 25 i0 1 Yba.underlying23 hi hz1 w.heap.size (2 * k) (2 * n) _ rfl (hown2 _ _) ⟨wr.heap.size + 1, 0, none⟩ 2 2 [.int .i64 x, .int .i64 y] rfl rfl hnews (by intro u hu; simp at hu; rcases hu with rfl | rfl <;> rfl) (by omega) ?_)
      intro w2 hown3 hg3
      have hR : Hid (w2.ownsRow w.heap.size 25 1 (.slice (some ⟨w.heap.size, 0, none⟩) (2 * (k + 1)) (2 * n)) (2 * (k + 1)) ((ends (ps.take (k + 1))).map (Value.int .i64)) ∧ Below w.heap.size w w2) := by
        refine ⟨?_, ((hB.alloc hwr _).alloc (by simp; omega) _).grown hg3 (by simp; omega) (by simp)⟩
        rw [hE.out, List.map_append]
        exact hown3
      clear hown3 hg3 hown2 hnews HO hown hB
      go_wp2
      go_roundw
      case rel => exact ⟨k + 1, by omega, by go_num, rfl, hR.out.1, hR.out.2⟩
      case measure => simp [intOf]; omega
    · have e : k = n := by omega
      subst e
      have hE : Hid (ends (ps.take k) = ends ps) := by rw [List.take_of_length_le (by rw [HL.out]; exact Nat.le_refl _)]; exact rfl
      have hEl : (ends ps).length = 2 * k := by rw [ends_length, HL.out]
      rw [hE.out] at hown
      have S := sort_ids w.heap.size w.heap.size (2 * k) (2 * k) (ends ps) wr hEl (by omega) hown
      have HB : Hid (Below w.heap.size w wr) := hB
      have hwr := hB.size
      have hlt0 := (own_lt hown).2
      clear hown hB hL hEl
      go_wp2_with fail
      refine S.mono ?_
      rintro e w2 ⟨rfl, ts, tl, tp, tw, hown2, hg2⟩
      clear S
      have hrow := owns_row tl hown2
      have hB2 : Below w.heap.size w w2 := HB.out.grown hg2 hwr (by simp)
      have HT : Hid (ts.length = 2 * k) := tl
      have HP : Hid (ts.Perm (ends ps)) := tp
      have HW : Hid (ts.Pairwise (· ≤ ·)) := tw
      clear hown2 hg2 HB tl tp tw
      go_wp2_with fail
      go_loopw [6, 32] (fun cv iv wr => ∃ i c : Nat, i ≤ 2 * k ∧ iv = .int .i64 i ∧ cv = .int .i64 c ∧ Hid (c = (uniq (ts.take i)).length) ∧ wr.rowIs w.heap.size 25 (2 * k) (rowU (uniq (ts.take i)) ts) ∧ Below w.heap.size w wr) (fun _ iv _ => 2 * k - (intOf iv).toNat)
      case atStart => exact ⟨0, 0, Nat.zero_le _, rfl, rfl, rfl, hrow, hB2⟩
      case round =>
        clear hrow hB2
        obtain ⟨i, c, hi', rfl, rfl, hc, hrow, hB⟩ := hrel
        have hci : c ≤ i := by rw [hc.out]; exact uniq_take_le
        by_cases hlt : i < 2 * k
        · have hcx : wr.cell? ⟨w.heap.size, i, none⟩ = some (.int .i64 (ts.getD i 0)) := (hrow.cell hlt).trans (by unfold rowU; rw [if_neg (by rw [← hc.out]; omega)])
          have hU : Hid (uniq (ts.take (i + 1)) = stepU (uniq (ts.take i)) (ts.getD i 0)) := uniq_take (by rw [HT.out]; exact hlt)
          have HR : Hid (wr.rowIs w.heap.size 25 (2 * k) (rowU (uniq (ts.take i)) ts)) := hrow
          have HB : Hid (Below w.heap.size w wr) := hB
          have hfz := hrow.frozen c
          have hold : ∃ v, wr.cell? ⟨w.heap.size, c, none⟩ = some v := ⟨_, hrow.cell (by omega)⟩
          obtain ⟨v0, hold⟩ := hold
          clear hrow hB
          generalize ts.getD i 0 = x at hcx hU
          by_cases hc0 : c = 0
          · subst hc0
            have hN : Hid ((wr.setCell ⟨w.heap.size, 0, none⟩ (.int .i64 x)).rowIs w.heap.size 25 (2 * k) (rowU (uniq (ts.take (i + 1))) ts) ∧ 1 = (uniq (ts.take (i + 1))).length) := by
              rw [hU.out, step_nil x hc.out.symm]
              refine ⟨?_, by simp [← hc.out]⟩
              have := row_keep (x := x) HR.out
              rw [← hc.out] at this
              exact this
            go_wp2
            exact ⟨⟨i + 1, 1, by omega, by go_num, rfl, hN.out.2, hN.out.1, HB.out.setCell (Nat.le_refl _) _⟩, by simp [intOf]; omega⟩
          · obtain ⟨d, rfl⟩ : ∃ d, c = d + 1 := ⟨c - 1, by omega⟩
            have hul : Hid ((uniq (ts.take i)).length = d + 1) := hc.out.symm
            have hcl : wr.cell? ⟨w.heap.size, d, none⟩ = some (.int .i64 ((uniq (ts.take i)).getD d 0)) := (HR.out.cell (by omega)).trans (by unfold rowU; rw [if_pos (by rw [hul.out]; omega)])
            have hy : Hid (∃ y, (uniq (ts.take i)).getD d 0 = y) := ⟨_, rfl⟩
            generalize hyy : (uniq (ts.take i)).getD d 0 = y at hcl
            have HY : Hid ((uniq (ts.take i)).getD d 0 = y) := hyy
            clear hyy hy
            by_cases hxy : x = y
            · have hb1 : (x != y) = false := by simp [hxy]
              have hN : Hid (uniq (ts.take (i + 1)) = uniq (ts.take i)) := by
                have h1 := hU.out
                rw [step_same hul.out (hxy.trans HY.out.symm)] at h1
                exact h1
              clear hxy hold
              go_wp2
              exact ⟨⟨i + 1, d + 1, by omega, by go_num, by go_num, by rw [hN.out]; exact hc.out, by rw [hN.out]; exact HR.out, HB.out⟩, by simp [intOf]; omega⟩
            · have hb1 : (x != y) = true := by simp [hxy]
              have hN : Hid ((wr.setCell ⟨w.heap.size, d + 1, none⟩ (.int .i64 x)).rowIs w.heap.size 25 (2 * k) (rowU (uniq (ts.take (i + 1))) ts) ∧ d + 1 + 1 = (uniq (ts.take (i + 1))).length) := by
                rw [hU.out, step_other hul.out (fun e => hxy (e.trans HY.out))]
                refine ⟨?_, by simp [hul.out]⟩
                have := row_keep (x := x) HR.out
                rw [hul.out] at this
                exact this
              clear hxy
              go_wp2
              exact ⟨⟨i + 1, d + 1 + 1, by omega, by go_num, by go_num, hN.out.2, hN.out.1, HB.out.setCell (Nat.le_refl _) _⟩, by simp [intOf]; omega⟩
        · have e : i = 2 * k := by omega
          subst e
          have hts : ts.take (2 * k) = ts := List.take_of_length_le (by rw [HT.out]; exact Nat.le_refl _)
          rw [hts] at hc hrow
          have hwr2 := hB.size
          have hnews : ∀ j u, ((uniq ts).map (Value.int .i64))[j]? = some u → wr.cell? ((⟨w.heap.size, 0, none⟩ : Addr).add j) = some u := fun j u hu => by
            have hj : j < (uniq ts).length := by have := (List.getElem?_eq_some_iff.1 hu).1; simpa using this
            rw [Addr.add_lit, Nat.zero_add, hrow.cell (by rw [← hc.out] at hj; omega)]
            unfold rowU
            rw [if_pos hj]
            rw [List.getElem?_map, List.getElem?_eq_getElem hj] at hu
            simp at hu
            simp [← hu, hj]
          have hlen : ((uniq ts).map (Value.int .i64)).length = c * 1 := by rw [List.length_map, hc.out, Nat.mul_one]
          have hcb : c ≤ 2048 := by omega
          clear hts
          go_wp2_with (at_builtin; refine wpList_append_own _ rfl _ _ _ rfl w.heap.size 25 i0 (.int .i64 0) 1 8 Yba.underlying23 hi hz0 hz1 hz2 rfl (by decide) (.slice none 0 0) 0 [] rfl (World.ownsRow_nil _ _ _ _) ⟨w.heap.size, 0, none⟩ c (2 * k) ((uniq ts).map (Value.int .i64)) rfl hlen hnews (by intro u hu; simp at hu; obtain ⟨y, _, rfl⟩ := hu; rfl) (by unfold maxLen; omega) (by omega) hwr2 ?_)
          intro v' w' hown' hg' _
          have hF : Hid (w'.ownsRow w.heap.size 25 1 v' (uniq ts).length ((uniq ts).map (Value.int .i64)) ∧ Below w.heap.size w w') := ⟨by rw [← hc.out]; exact hown', hB.grown hg' hwr2 (by simp [Value.ownBlock])⟩
          clear hown' hg' hnews hrow hB
          go_wp2
          go_ret
          exact ⟨v', ts, rfl, HP.out, HW.out, hF.out.1, hF.out.2⟩
end Go.Proofs.Ybulkzhy

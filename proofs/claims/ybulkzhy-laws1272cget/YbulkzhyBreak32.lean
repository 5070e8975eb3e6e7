/-
  slices.breakPatternsOrdered[int32] computes 'Sort.breakPatterns'.
-/
import Derived.Test.YbulkzhyXor32
import Derived.Sort.Walk7
namespace Go.Proofs.Ybulkzhy
open Go.RowKit Go.Sort
set_option linter.unusedVariables false

/-- The row d, and the generator's state r in the cell ⟨g, 0⟩ of a new block. -/
structure Rnd (w : World) (blk off : Nat) (d : Array Int) (g r : Nat) (W : World) : Prop where
  row : At E32 w blk off d W
  cell : W.cell? ⟨g, 0, none⟩ = some (.int .u64 r)
  froz : W.frozen? ⟨g, 0, none⟩ = false

theorem Rnd.store {w W : World} {blk off g s : Nat} {d : Array Int} (h : Rnd w blk off d g s W) (hg : w.heap.size ≤ g) (t q : Nat) : Rnd w blk off d g t ((W.setCell ⟨g, 0, none⟩ (.int .u64 t)).drewN q) :=
  ⟨At.drawn (At.fresh h.row hg 0 _) q, World.cell?_setCell_same' _ _ _ (by rw [h.cell]; rfl), by show (W.setCell _ _).frozen? _ = _; rw [setCell_eq, frozen?_mapBlock]; exact h.froz⟩

theorem Rnd.swap {w W : World} {blk off g r : Nat} {d : Array Int} (h : Rnd w blk off d g r W) (hb : blk < w.heap.size) (hg : w.heap.size ≤ g) (j k : Nat) (hj : j < d.size) (hk : k < d.size) {x y : Int} (hx : x = d[k]!) (hy : y = d[j]!) :
    Rnd w blk off (swp d j k) g r ((W.setCell ⟨blk, off + j, none⟩ (.int .i32 x)).setCell ⟨blk, off + k, none⟩ (.int .i32 y)).drew := by
  refine ⟨At.swap1 h.row hb j k hj hk hx hy, ?_, ?_⟩
  · show ((W.setCell _ _).setCell _ _).cell? _ = _
    rw [World.cell?_setCell_other _ _ _ _ (by intro e; injection e with e1; omega), World.cell?_setCell_other _ _ _ _ (by intro e; injection e with e1; omega)]
    exact h.cell
  · show ((W.setCell _ _).setCell _ _).frozen? _ = _
    rw [setCell_eq, frozen?_mapBlock, setCell_eq, frozen?_mapBlock]
    exact h.froz

theorem Rnd.start {w : World} {blk off : Nat} {d : Array Int} (h : Holds E32 w blk off d) (L : Nat) (hL : L < 18446744073709551616) : Rnd w blk off d w.heap.size (UInt64.ofNat L).toNat (w.alloc (.cells #[.int .u64 L] 85)) :=
  ⟨At.alloc (At.refl h) _, by rw [show (UInt64.ofNat L).toNat = L by simp; omega]; simp, by simp⟩

set_option maxHeartbeats 2000000 in
set_option maxRecDepth 1000000 in
theorem Yba.break32go (blk off cap N a b L : Nat) (d : Array Int) (w : World) (hH : Holds E32 w blk off d) (hN : d.size = N) (hblk : blk < w.heap.size) (hbL : b = a + L) (h8 : 8 ≤ L) (hb : b ≤ N) (hsz : N < 4611686018427387904) :
    Calls Yba.prog 24 #[.slice (some ⟨blk, off, none⟩) N cap, .int .i64 a, .int .i64 b] w fun e w' =>
      e = .returned (.tuple #[]) ∧ At E32 w blk off (breakPatterns d a b) w' := by
  obtain ⟨D, hD⟩ : ∃ D, D = breakPatterns d a b := ⟨_, rfl⟩
  obtain ⟨M, hM⟩ : ∃ M : Nat, M = 1 <<< bitsLen L := ⟨_, rfl⟩
  have hM1 : 1 ≤ M := by rw [hM, Nat.one_shiftLeft]; exact Nat.two_pow_pos _
  have hM2 : M ≤ 2 * L := by rw [hM, Nat.one_shiftLeft]; exact two_pow_bitsLen_le (by omega)
  obtain ⟨i0, hi0⟩ : ∃ i0, i0 = a + L / 4 * 2 - 1 := ⟨_, rfl⟩
  have HD : Hid (D = bpRest a L M i0 3 0 (UInt64.ofNat L, d)) := by
    show D = _
    rw [hD, hbL, breakPatterns_eq d a L h8, hM, hi0]
  have hNP : ∀ w, Calls Yba.prog 42 #[.int .i64 (L : Int)] w fun e w' => e = .returned (.int .u64 (M : Int)) ∧ w' = w := by rw [hM]; exact fun w => Yba.npow L (by omega) w
  rw [← hD]
  have hLz : (b : Int) - (a : Int) = (L : Int) := by omega
  have e0 : (a : Int) + (L : Int) / 4 * 2 - 1 = (i0 : Int) := by omega
  have e2 : (a : Int) + (L : Int) / 4 * 2 + 1 = ((i0 + 2 : Nat) : Int) := by omega
  have bi : i0 + 2 < b ∧ a ≤ i0 := by omega
  have hba : a + L ≤ N := by omega
  have HH : Hid (Holds E32 w blk off d) := hH
  have HR0 : Hid (Rnd w blk off d w.heap.size (UInt64.ofNat L).toNat (w.alloc (.cells #[.int .u64 L] 85))) := Rnd.start hH L (by omega)
  obtain ⟨g, hg⟩ : ∃ g, g = w.heap.size := ⟨_, rfl⟩
  have hgz : w.heap.size = g := hg.symm
  have HGZ : Hid (w.heap.size ≤ g) := by show w.heap.size ≤ g; omega
  rw [← hg] at HR0
  clear hH hM hi0 hD hg hbL
  go_enter Yba.func24, Yba.ntmps24
  go_wp2_with (go_at_call 42; refine (hNP _).mono ?_; rintro e w' ⟨rfl, rfl⟩)
  go_loopg [9] 3 (fun k s9 wr => ∃ (t : Nat) (r : UInt64) (dk : Array Int), s9 = .int .i64 ((i0 + t : Nat) : Int) ∧ t ≤ 3 ∧ 3 - t ≤ k ∧ dk.size = N ∧ Rnd w blk off dk g r.toNat wr ∧ bpRest a L M i0 (3 - t) t (r, dk) = D)
  case atStart => exact ⟨0, UInt64.ofNat L, d, rfl, by omega, by omega, hN, HR0.out, HD.out.symm⟩
  case round =>
    obtain ⟨t, r, dk, rfl, ht, hk, hds, hrn, heq⟩ := hrel
    have HE : Hid (bpRest a L M i0 (3 - t) t (r, dk) = D) := heq
    have HRN : Hid (Rnd w blk off dk g r.toNat wr) := hrn
    clear heq hrn HR0 HD
    by_cases ht3 : t < 3
    · have htz : ((i0 + t : Nat) : Int) ≤ ((i0 + 2 : Nat) : Int) := by omega
      obtain ⟨x, hx⟩ : ∃ x, x = i0 + t := ⟨_, rfl⟩
      rw [← hx] at htz ⊢
      have hxb : x < N := by omega
      obtain ⟨R', hR'⟩ : ∃ R' : Nat, R' = (xorNext r).toNat := ⟨_, rfl⟩
      have lR' : R' < 18446744073709551616 := by rw [hR']; exact (xorNext r).toNat_lt
      obtain ⟨O, hO⟩ : ∃ O : Nat, O = R' &&& (M - 1) := ⟨_, rfl⟩
      have lO : O ≤ M - 1 := by rw [hO]; exact Nat.and_le_right
      have eAnd : bits .and .u64 (R' : Int) ((M : Int) - 1) = (O : Int) := by
        rw [show ((M : Int) - 1) = ((M - 1 : Nat) : Int) by omega, bits_and_u64_nat _ _ lR' (by omega), hO]
      have hNext : Calls Yba.prog 43 #[.pointer (some ⟨g, 0, none⟩)] wr fun e w' => e = .returned (.int .u64 (R' : Int)) ∧ Rnd w blk off dk g R' w' := by
        refine (Yba.next43 g r.toNat r.toNat_lt wr HRN.out.cell HRN.out.froz).mono ?_
        rintro e w' ⟨rfl, rfl⟩
        rw [hR', xorNext_toNat]
        exact ⟨rfl, HRN.out.store HGZ.out _ 3⟩
      have HX : Hid (R' = (xorNext r).toNat ∧ O = (xorNext r).toNat &&& (M - 1) ∧ x = i0 + t) := ⟨hR', by rw [hO, hR'], hx⟩
      clear hR' hO hx
      go_upto_if 43 with (go_at_call 43; refine hNext.mono ?_; rintro e w1 ⟨rfl, hrn1⟩)
      have HR1 : Hid (Rnd w blk off dk g R' w1) := hrn1
      clear hrn1
      go_cut [10] from 26 to 64 (fun s10 wx => ∃ o : Nat, s10 = .int .i64 o ∧ o < L ∧ Hid ((if (xorNext r).toNat &&& (M - 1) ≥ L then ((xorNext r).toNat &&& (M - 1)) - L else (xorNext r).toNat &&& (M - 1)) = o) ∧ w1 = wx)
      case first =>
        by_cases hLO : L ≤ O
        · have hLOz : (L : Int) ≤ (O : Int) := by omega
          go_wp2_with fail
          go_meet
          case rel => exact ⟨O - L, by congr 1; omega, by omega, by show _ = _; rw [← HX.out.2.1, if_pos hLO], rfl⟩
        · have hLOz : ¬ ((L : Int) ≤ (O : Int)) := by omega
          go_wp2_with fail
          go_meet
          case rel => exact ⟨O, rfl, by omega, by show _ = _; rw [← HX.out.2.1, if_neg hLO], rfl⟩
      case rest =>
        obtain ⟨o, rfl, hoL, HO, rfl⟩ := hcut
        obtain ⟨G, hG⟩ : ∃ G : Nat → Int, ∀ t, G t = dk[t]! := ⟨fun t => dk[t]!, fun _ => rfl⟩
        obtain ⟨hcw, hfw, -, -⟩ := At.cells HR1.out.row HH.out hN hds hblk
        simp only [← hG] at hcw
        have HG : Hid (∀ t, G t = dk[t]!) := hG
        clear hG
        obtain ⟨v3, hy3⟩ := cell?_setCell_some (w := w1) (p := ⟨blk, off + x, none⟩) (x := .int .i32 (G (a + o))) (q := ⟨blk, off + (a + o), none⟩) (hcw (a + o) (by omega))
        go_wp2_with fail
        go_region
        go_wp2
        go_roundg (3 - (t + 1))
        case measure => omega
        case rel =>
          refine ⟨t + 1, xorNext r, swp dk x (a + o), by rw [HX.out.2.2]; rfl, by omega, Nat.le_refl _, by rw [size_swp]; exact hds, ?_, ?_⟩
          · rw [← HX.out.1]; exact HR1.out.swap hblk HGZ.out x (a + o) (by omega) (by omega) (HG.out _) (HG.out _)
          · rw [← HE.out, HX.out.2.2]; exact (bp_step a L M i0 t r dk o ht3 HO.out).symm
    · obtain rfl : t = 3 := by omega
      have htz : ¬ (((i0 + 3 : Nat) : Int) ≤ ((i0 + 2 : Nat) : Int)) := by omega
      go_wp2
      go_end0
      exact ⟨rfl, by rw [← HE.out]; exact HRN.out.row⟩

set_option maxHeartbeats 1000000 in
theorem Yba.break32 (blk off cap N a b : Nat) (d : Array Int) (w : World) (hH : Holds E32 w blk off d) (hN : d.size = N) (hblk : blk < w.heap.size) (hab : a ≤ b) (hb : b ≤ N) (hsz : N < 4611686018427387904) :
    Calls Yba.prog 24 #[.slice (some ⟨blk, off, none⟩) N cap, .int .i64 a, .int .i64 b] w fun e w' =>
      e = .returned (.tuple #[]) ∧ At E32 w blk off (breakPatterns d a b) w' := by
  by_cases h8 : 8 ≤ b - a
  · exact Yba.break32go blk off cap N a b (b - a) d w hH hN hblk (by omega) h8 hb hsz
  · have HF : Hid (At E32 w blk off (breakPatterns d a b) w) := by
      have e : breakPatterns d a b = d := by unfold breakPatterns; simp only []; rw [if_neg (by omega)]
      show At E32 w blk off (breakPatterns d a b) w
      rw [e]; exact At.refl hH
    have h8z : ¬ ((8 : Int) ≤ (b : Int) - (a : Int)) := by omega
    clear hH
    go_enter Yba.func24, Yba.ntmps24
    go_wp2
    go_end0
    exact ⟨rfl, HF.out⟩
end Go.Proofs.Ybulkzhy

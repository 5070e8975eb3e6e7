/-
  slices.pdqsortOrdered[int32] computes 'Sort.pdq'.
-/
import Derived.Test.YbulkzhyRound32
import Derived.Test.YbulkzhyIns32
import Derived.Test.YbulkzhyHeapS32
import Derived.Test.YbulkzhyRev32
import Derived.Test.YbulkzhyPart32
import Derived.Test.YbulkzhyPartEq32
import Derived.Test.YbulkzhyPins32
import Derived.Test.YbulkzhyBreak32
namespace Go.Proofs.Ybulkzhy
open Go.RowKit Go.Sort
set_option linter.unusedVariables false

theorem eighth32 {x y p q : Nat} (h1 : q ≤ p) (h2 : y ≤ x) : decide (((x : Int) - (y : Int)) / 8 ≤ (p : Int) - (q : Int)) = decide (p - q ≥ (x - y) / 8) :=
  decide_eq_decide.2 ⟨fun h => by omega, fun h => by omega⟩
theorem code_two {h : Hint} (e : hintCode h = 2) : h = .decreasing := by cases h <;> simp [hintCode] at e ⊢

set_option maxHeartbeats 8000000 in
set_option maxRecDepth 1000000 in
theorem Yba.pdq32 : ∀ (n blk off cap N a b limit : Nat) (d : Array Int) (w : World), b - a < n → Holds E32 w blk off d → d.size = N → blk < w.heap.size → a ≤ b → b ≤ N → N < 4611686018427387904 → limit < 4611686018427387904 → Below ltInt a b d →
    Calls Yba.prog 19 #[.slice (some ⟨blk, off, none⟩) N cap, .int .i64 a, .int .i64 b, .int .i64 limit] w fun e w' =>
      e = .returned (.tuple #[]) ∧ At E32 w blk off (pdq ltInt d a b limit true true) w' := by
  intro n
  induction n with
  | zero => intro _ _ _ _ _ _ _ _ _ h; exact absurd h (Nat.not_lt_zero _)
  | succ n ih =>
    intro blk off cap N a b limit d w hn hH hN hblk hab hb hsz hlimit hBel
    have HH : Hid (Holds E32 w blk off d) := hH
    have IH : Hid (∀ (a b limit : Nat) (d : Array Int) (w : World), b - a < n → Holds E32 w blk off d → d.size = N → blk < w.heap.size → a ≤ b → b ≤ N → limit < 4611686018427387904 → Below ltInt a b d →
      Calls Yba.prog 19 #[.slice (some ⟨blk, off, none⟩) N cap, .int .i64 a, .int .i64 b, .int .i64 limit] w fun e w' => e = .returned (.tuple #[]) ∧ At E32 w blk off (pdq ltInt d a b limit true true) w') :=
      fun a b limit d w h1 h2 h3 h4 h5 h6 h7 h8 => ih blk off cap N a b limit d w h1 h2 h3 h4 h5 h6 hsz h7 h8
    have HB : Hid (Below ltInt a b d) := hBel
    clear hH ih hBel
    go_enter Yba.func19, Yba.ntmps19
    go_wp2
    go_loopg [1, 2, 3, 8, 9] (b - a) (fun k s1 s2 s3 s8 s9 wr => ∃ (a' b' lim : Nat) (wb wp : Bool) (dk : Array Int), s1 = .int .i64 a' ∧ s2 = .int .i64 b' ∧ s3 = .int .i64 lim ∧ s8 = .bool wb ∧ s9 = .bool wp ∧
      a' ≤ b' ∧ b' ≤ N ∧ b' - a' ≤ k ∧ k ≤ b - a ∧ lim ≤ limit ∧ dk.size = N ∧ Below ltInt a' b' dk ∧ At E32 w blk off dk wr ∧ pdq ltInt dk a' b' lim wb wp = pdq ltInt d a b limit true true)
    case atStart => exact ⟨a, b, limit, true, true, d, rfl, rfl, rfl, rfl, rfl, hab, hb, Nat.le_refl _, Nat.le_refl _, Nat.le_refl _, hN, HB.out, At.refl HH.out, rfl⟩
    case round =>
      obtain ⟨a', b', lim, wb, wp, dk, rfl, rfl, rfl, rfl, rfl, hab', hb', hk, hkn, hlim, hds, hBk, hat, heq⟩ := hrel
      obtain ⟨-, -, hblk', hHk⟩ := At.cells hat HH.out hN hds hblk
      have BK : Hid (Below ltInt a' b' dk) := hBk
      have AT : Hid (At E32 w blk off dk wr) := hat
      have HE : Hid (pdq ltInt dk a' b' lim wb wp = pdq ltInt d a b limit true true) := heq
      have HHk : Hid (Holds E32 wr blk off dk) := hHk
      clear hBk hat heq hHk HB
      by_cases h12 : b' - a' ≤ 12
      · have h12z : (b' : Int) - (a' : Int) ≤ 12 := by omega
        have hc := Yba.insertion32 blk off cap N a' b' dk wr HHk.out hds hblk' hab' hb' hsz
        go_wp2_with (go_at_call 22; refine hc.mono ?_; rintro e w1 ⟨rfl, hw1⟩)
        (try simp only [Exit.inBlock, Exit.then]); refine bodyPost_ret (results_none rfl _ _ _) rfl ?_
        exact ⟨rfl, by rw [← HE.out, pdq_small h12]; exact At.trans AT.out hblk (ins_size dk hab' (by omega)) hw1⟩
      · have h12z : ¬ ((b' : Int) - (a' : Int) ≤ 12) := by omega
        by_cases hl0 : lim = 0
        · subst hl0
          have hc := Yba.heap32 blk off cap N a' b' dk wr HHk.out hds hblk' hab' hb' hsz
          go_wp2_with (go_at_call 23; refine hc.mono ?_; rintro e w1 ⟨rfl, hw1⟩)
          (try simp only [Exit.inBlock, Exit.then]); refine bodyPost_ret (results_none rfl _ _ _) rfl ?_
          exact ⟨rfl, by rw [← HE.out, pdq_heap h12 rfl]; exact At.trans AT.out hblk (heap_size dk hab' (by omega)) hw1⟩
        · have hl0z : ((lim : Int) == 0) = false := by simp; omega
          obtain ⟨R, hR⟩ := round_is (wb := wb) (wp := wp) h12 hl0 (show b' ≤ dk.size by omega) BK.out
          have RD : Hid (Round dk a' b' lim wb wp R) := hR
          have hpv := hR.pv
          have hcr := hR.cr
          have hs1 : R.d1.size = N := hR.s1.trans hds
          have hs2 : R.d2.size = N := hR.s2.trans hds
          have hs3 : R.pi.1.size = N := hR.s3.trans hds
          have hll := hR.lim_le
          clear hR
          go_upto_if 35 with fail
          go_cut [3] from 19 to 133 (fun s3 wc => s3 = .int .i64 R.lim ∧ Hid (At E32 w blk off R.d1 wc))
          case first =>
            cases wb
            · have hc := Yba.break32 blk off cap N a' b' dk wr HHk.out hds hblk' hab' hb' hsz
              go_wp2_with (go_at_call 24; refine hc.mono ?_; rintro e w1 ⟨rfl, hw1⟩)
              go_meet
              case rel =>
                obtain ⟨e1, e2⟩ := RD.out.wbF rfl
                refine ⟨by rw [e2]; congr 1; omega, ?_⟩
                show At E32 w blk off R.d1 w1
                rw [e1]; exact At.trans AT.out hblk (by rw [← e1]; exact RD.out.s1) hw1
            · go_wp2_with fail
              go_meet
              case rel =>
                obtain ⟨e1, e2⟩ := RD.out.wbT rfl
                exact ⟨by rw [e2], by show At E32 w blk off R.d1 wr; rw [e1]; exact AT.out⟩
          case rest =>
            obtain ⟨rfl, AT1⟩ := hcut
            clear AT HHk hblk'
            obtain ⟨-, -, hblk1, hH1⟩ := At.cells AT1.out HH.out hN hs1 hblk
            have hc25 : Calls Yba.prog 25 #[.slice (some ⟨blk, off, none⟩) N cap, .int .i64 a', .int .i64 b'] wc fun e w' => e = .returned (.tuple #[.int .i64 R.c.1, .int .i64 (hintCode R.c.2)]) ∧ At E32 wc blk off R.d1 w' := by
              have := Yba.choose32 blk off cap N a' b' R.d1 wc hH1 hs1 hblk1 (by omega) hb' hsz
              rw [← RD.out.c] at this; exact this
            have HH1 : Hid (Holds E32 wc blk off R.d1) := hH1
            clear hH1
            go_upto_if 50 with (go_at_call 25; refine hc25.mono ?_; rintro e w2 ⟨rfl, hw2⟩)
            have AT2 : Hid (At E32 w blk off R.d1 w2) := At.trans AT1.out hblk rfl hw2
            clear hw2 hc25 AT1 HH1 hblk1
            go_cut [11, 12] from 19 to 133 (fun s11 s12 wx => s11 = .int .i64 R.pivot ∧ s12 = .int .i64 (hintCode R.hint) ∧ Hid (At E32 w blk off R.d2 wx))
            case first =>
              obtain ⟨-, -, hblk2, hH2⟩ := At.cells AT2.out HH.out hN hs1 hblk
              by_cases hh : R.c.2 = .decreasing
              · have hcode : hintCode R.c.2 = 2 := by rw [hh]; rfl
                have hc26 := Yba.reverse32 blk off cap N a' b' R.d1 w2 hH2 hs1 hblk2 hab' hb' hsz
                clear hH2
                go_wp2_with (go_at_call 26; refine hc26.mono ?_; rintro e w3 ⟨rfl, hw3⟩)
                go_meet
                case rel =>
                  obtain ⟨e1, e2, e3⟩ := RD.out.dec hh
                  refine ⟨by rw [e2]; congr 1; omega, by rw [e3]; rfl, ?_⟩
                  show At E32 w blk off R.d2 w3
                  rw [e1]; exact At.trans AT2.out hblk (by rw [← e1, hs2, hs1]) hw3
              · have hcode : ¬ (hintCode R.c.2 = 2) := fun h => hh (code_two h)
                clear hH2
                go_wp2_with fail
                go_meet
                case rel =>
                  obtain ⟨e1, e2, e3⟩ := RD.out.ndec hh
                  exact ⟨by rw [e2], by rw [e3], by show At E32 w blk off R.d2 w2; rw [e1]; exact AT2.out⟩
            case rest =>
              obtain ⟨rfl, rfl, AT3⟩ := hcut
              clear AT2
              go_upto_region 15 with fail
              go_cut [12, 68] from 19 to 133 (fun s12 s68 wx => s12 = .int .i64 (hintCode R.hint) ∧ s68 = .bool (wb && wp && decide (R.hint = .increasing)) ∧ wc = wx)
              case first =>
                cases wb <;> cases wp <;> cases hh3 : R.hint <;>
                  (have hcode3 := congrArg hintCode hh3
                   simp only [hintCode] at hcode3
                   go_wp2_with fail
                   go_meet
                   exact ⟨by simp [hh3, hintCode], by simp [hh3, hintCode], rfl⟩)
              case rest =>
                obtain ⟨rfl, rfl, rfl⟩ := hcut
                obtain ⟨-, -, hblk3, hH3⟩ := At.cells AT3.out HH.out hN hs2 hblk
                have hc27 := Yba.pins32 blk off cap N a' b' R.d2 wc hH3 hs2 hblk3 (by omega) hb' hsz
                clear hH3
                go_upto_if 68 with fail
                go_cut [] from 19 to 133 (fun wx => R.pi.2 = false ∧ Hid (At E32 w blk off R.pi.1 wx))
                case first =>
                  cases h68 : (wb && wp && decide (R.hint = .increasing))
                  · have epi := RD.out.no h68
                    have EPI : Hid (R.pi = (R.d2, false)) := epi
                    clear epi hc27
                    go_wp2_with fail
                    go_meet
                    case rel => exact ⟨by rw [EPI.out], by show At E32 w blk off R.pi.1 wc; rw [EPI.out]; exact AT3.out⟩
                  · have EPI : Hid (R.pi = partialInsertionSort ltInt R.d2 a' b') := RD.out.yes h68
                    rw [← EPI.out] at hc27
                    obtain ⟨done, hdone⟩ : ∃ done, done = R.pi.2 := ⟨_, rfl⟩
                    rw [← hdone] at hc27
                    have HD : Hid (done = R.pi.2) := hdone
                    clear hdone
                    cases done
                    · go_wp2_with (go_at_call 27; refine hc27.mono ?_; rintro e w4 ⟨rfl, hw4⟩)
                      go_meet
                      case rel => exact ⟨HD.out.symm, At.trans AT3.out hblk (hs3.trans hs2.symm) hw4⟩
                    · go_wp2_with (go_at_call 27; refine hc27.mono ?_; rintro e w4 ⟨rfl, hw4⟩)
                      (try simp only [Exit.inBlock, Exit.then]); refine bodyPost_ret (results_none rfl _ _ _) rfl ?_
                      exact ⟨rfl, by rw [← HE.out, RD.out.done HD.out.symm]; exact At.trans AT3.out hblk (hs3.trans hs2.symm) hw4⟩
                case rest =>
                  obtain ⟨hp2, AT5⟩ := hcut
                  clear AT3 hc27 hblk3
                  obtain ⟨G, hG⟩ : ∃ G : Nat → Int, ∀ t, G t = R.pi.1[t]! := ⟨fun t => R.pi.1[t]!, fun _ => rfl⟩
                  obtain ⟨hcw, hfw, -, -⟩ := At.cells AT5.out HH.out hN hs3 hblk
                  simp only [← hG] at hcw
                  have HG : Hid (∀ t, G t = R.pi.1[t]!) := hG
                  clear hG
                  go_upto_region 17 with fail
                  go_cut [87] from 19 to 133 (fun s87 wx => s87 = .bool (decide (a' > 0) && !ltInt (G (a' - 1)) (G R.pivot)) ∧ Hid (At E32 w blk off R.pi.1 wx))
                  case first =>
                    by_cases ha0 : a' > 0
                    · have ha0z : (a' : Int) > 0 := by omega
                      go_big_quiet (first | (go_at_call 28; refine Calls.quiet_of_same (Yba.less32 _ _ _)))
                      go_wp2_with fail
                      go_meet
                      case rel => exact ⟨by simp [ha0], At.drawn AT5.out nq⟩
                    · have ha0z : decide ((a' : Int) > 0) = false := decide_eq_false (by omega)
                      go_big_quiet (first | (go_at_call 28; refine Calls.quiet_of_same (Yba.less32 _ _ _)))
                      go_wp2_with fail
                      go_meet
                      case rel => exact ⟨by simp [ha0], At.drawn AT5.out nq⟩
                  case rest =>
                    obtain ⟨rfl, AT6⟩ := hcut
                    clear AT5 hcw hfw
                    obtain ⟨-, -, hblk6, hH6⟩ := At.cells AT6.out HH.out hN hs3 hblk
                    have HH6 : Hid (Holds E32 wc blk off R.pi.1) := hH6
                    clear hH6
                    cases h87 : (decide (a' > 0) && !ltInt (G (a' - 1)) (G R.pivot))
                    · obtain ⟨mid, ap, d4, hx⟩ : ∃ mid ap d4, partition ltInt R.pi.1 a' b' R.pivot = (mid, ap, d4) := ⟨(partition ltInt R.pi.1 a' b' R.pivot).1, (partition ltInt R.pi.1 a' b' R.pivot).2.1, (partition ltInt R.pi.1 a' b' R.pivot).2.2, rfl⟩
                      obtain ⟨r1, r2, r3, r4, r5, r6, r7⟩ := RD.out.neq hp2 (by rw [← HG.out, ← HG.out]; exact h87) mid ap d4 hx
                      have hs4 : d4.size = N := r3.trans hds
                      have hc30 := Yba.part32 blk off cap N a' b' R.pivot R.pi.1 wc HH6.out hs3 hblk6 hpv.1 hpv.2 hb' hsz
                      rw [hx] at hc30
                      have R4 : Hid (Below ltInt a' mid d4) := r4
                      have R5 : Hid (Below ltInt (mid + 1) b' d4) := r5
                      have R6 : Hid (_ → _) := r6
                      have R7 : Hid (_ → _) := r7
                      clear hx r4 r5 r6 r7
                      go_upto_if 113 with (go_at_call 30; refine hc30.mono ?_; rintro e w7 ⟨rfl, hw7⟩)
                      have AT7 : Hid (At E32 w blk off d4 w7) := At.trans AT6.out hblk (hs4.trans hs3.symm) hw7
                      obtain ⟨-, -, hblk7, hH7⟩ := At.cells AT7.out HH.out hN hs4 hblk
                      have HH7 : Hid (Holds E32 w7 blk off d4) := hH7
                      clear hH7 hw7 hc30 AT6 HH6 hblk6
                      by_cases h4 : mid - a' < b' - mid
                      · have h4z : (mid : Int) - (a' : Int) < (b' : Int) - (mid : Int) := by omega
                        have hih := IH.out a' mid R.lim d4 w7 (by omega) HH7.out hs4 hblk7 r1 (by omega) (by omega) R4.out
                        go_wp2_with (go_at_call 19; refine hih.mono ?_; rintro e w8 ⟨rfl, hw8⟩)
                        go_roundg (b' - (mid + 1))
                        case measure => omega
                        case rel =>
                          obtain ⟨q1, q2, q3⟩ := R6.out h4
                          exact ⟨mid + 1, b', R.lim, decide (mid - a' ≥ (b' - a') / 8), ap, pdq ltInt d4 a' mid R.lim true true, by simp, rfl, rfl, congrArg Value.bool (eighth32 (by omega) (by omega)), rfl, by omega, hb', Nat.le_refl _, by omega, by omega, q1.trans hs4, q2,
                            At.trans AT7.out hblk q1 hw8, q3.trans HE.out⟩
                      · have h4z : ¬ ((mid : Int) - (a' : Int) < (b' : Int) - (mid : Int)) := by omega
                        have hih := IH.out (mid + 1) b' R.lim d4 w7 (by omega) HH7.out hs4 hblk7 (by omega) hb' (by omega) R5.out
                        go_wp2_with (go_at_call 19; refine hih.mono ?_; rintro e w8 ⟨rfl, hw8⟩)
                        go_roundg (mid - a')
                        case measure => omega
                        case rel =>
                          obtain ⟨q1, q2, q3⟩ := R7.out h4
                          exact ⟨a', mid, R.lim, decide (b' - mid ≥ (b' - a') / 8), ap, pdq ltInt d4 (mid + 1) b' R.lim true true, rfl, rfl, rfl, congrArg Value.bool (eighth32 (by omega) (by omega)), rfl, by omega, by omega, Nat.le_refl _, by omega, by omega, q1.trans hs4, q2,
                            At.trans AT7.out hblk q1 hw8, q3.trans HE.out⟩
                    · obtain ⟨mid, d4, hx⟩ : ∃ mid d4, partitionEqual ltInt R.pi.1 a' b' R.pivot = (mid, d4) := ⟨(partitionEqual ltInt R.pi.1 a' b' R.pivot).1, (partitionEqual ltInt R.pi.1 a' b' R.pivot).2, rfl⟩
                      obtain ⟨r1, r2, r3, r4, r5⟩ := RD.out.eqq hp2 (by rw [← HG.out, ← HG.out]; exact h87) mid d4 hx
                      have hs4 : d4.size = N := r3.trans hds
                      have hc29 := Yba.partEq32 blk off cap N a' b' R.pivot R.pi.1 wc HH6.out hs3 hblk6 hpv.1 hpv.2 hb' hsz
                      rw [hx] at hc29
                      have R4 : Hid (Below ltInt mid b' d4) := r4
                      have R5 : Hid (pdq ltInt d4 mid b' R.lim wb wp = pdq ltInt dk a' b' lim wb wp) := r5
                      clear hx r4 r5
                      go_wp2_with (go_at_call 29; refine hc29.mono ?_; rintro e w7 ⟨rfl, hw7⟩)
                      go_roundg (b' - mid)
                      case measure => omega
                      case rel =>
                        exact ⟨mid, b', R.lim, wb, wp, d4, rfl, rfl, rfl, rfl, rfl, r2, hb', Nat.le_refl _, by omega, by omega, hs4, R4.out, At.trans AT6.out hblk (hs4.trans hs3.symm) hw7, R5.out.trans HE.out⟩
end Go.Proofs.Ybulkzhy

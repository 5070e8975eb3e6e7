/-
  THE ROW OF LawS1270ARoundTrip, AND ITS TIED CARD.
-/
import Derived.Test.YbulkzgwDoorRows
import Derived.Test.YbulkzgwDoorTie
import Derived.Test.YbulkzgwDoorCards
import Derived.Test.YbulkzgwDoorLawB
import Derived.ProofKit
import Derived.Handy
import Derived.Lay
import Derived.SevenTiedAt
import Derived.OpenShut
import Derived.Stop.Joined
import Derived.ChangeOld
namespace Go.Proofs.YbulkzgwDoor.lawS1270ARoundTrip
open Go.ChangeShapes Go.WideShapes Go.ChangeAt Go.RowKit
set_option linter.unusedVariables false

theorem own : ownKnob Ybad.prog.godebug = none := by kernel_rfl
theorem laidOut : laidOutB Ybad.prog = true := by kernel_rfl
theorem cells30 : Ybad.prog.cellsOf 30 = 1 := by kernel_rfl

/-- A variable that holds a handle, read as data: its one cell holds a pointer. -/
theorem handle_cell {W : World} {n : String} {g : Nat} {cs : Array Value} {f : Nat} {d : DataW Unit} {p : List MemPlace} (hg : Ybad.prog.globalNamed n = some g) (hv : World.var? Ybad.prog W n = some cs)
    (hd : DataW.trod (fun _ => ()) Ybad.prog W 0 (fun _ => true) false f 30 cs.toList = some (d, p)) : ∃ z, W.cell? ⟨g, 0, none⟩ = some (.pointer z) := by
  obtain ⟨y0, m, _, hl, hy⟩ := trod_struct1 Ybad.underlying30 hd
  rw [cells30] at hl
  have hcell := World.var?_cell hg hv 0
  obtain ⟨l⟩ := cs
  match l, hl with
  | [c], _ =>
    have e : ([c].drop 0).take (Ybad.prog.cellsOf 28) = [c] := by
      rw [show Ybad.prog.cellsOf 28 = 1 by kernel_rfl]; rfl
    rcases DataW.trod_pointer Ybad.underlying28 hy with ⟨hcs, _⟩ | ⟨a, cs', y, k, _, hcs, _⟩
    · have : [c] = [Value.pointer none] := e.symm.trans hcs
      cases this
      exact ⟨none, by simpa using hcell⟩
    · have : [c] = [Value.pointer (some a)] := e.symm.trans hcs
      cases this
      exact ⟨some a, by simpa using hcell⟩

/-- WHAT THE CONDITION GIVES THE WALKS: z4's one cell holds a pointer. -/
theorem of_laid {W : World} (h : laidMetH Ybad.prog Rows.lawS1270ARoundTripRow.laid W) : ∃ z, W.cell? ⟨1, 0, none⟩ = some (.pointer z) := by
  rw [MakeChecks.laidMetH_plain _ _ _ (by kernel_rfl)] at h
  obtain ⟨ps, ⟨g0, t0, cs0, f0, p0, q0, hg0, ht0, hv0, hd0, _⟩, _, _⟩ := h
  obtain rfl := Option.some.inj (gz4.symm.trans hg0)
  obtain rfl := Option.some.inj (tz4.symm.trans ht0)
  exact handle_cell hg0 hv0 hd0

/-- WHAT THE WALK IS TOLD OF A SLICE OF NUMBERS THAT CAME IN. -/
def IsRow (k : IntKind) (w : World) (a : Option Addr) (len cap : Nat) (zs : List Int) : Prop :=
  (a = none ∧ len = 0 ∧ cap = 0 ∧ zs = []) ∨
  ∃ x, a = some x ∧ len ≤ cap ∧ cap ≤ maxLen ∧ zs.length = cap ∧ (∀ i, i < zs.length → w.cell? (x.add i) = some (.int k (zs.getD i 0))) ∧ ∀ n ∈ zs, (Lit.int k n).wf = true

theorem IsRow.pre {w : World} {a : Option Addr} {len cap : Nat} {zs : List Int} (h : IsRow .u32 w a len cap zs) :
    len ≤ maxLen ∧ (zs.take len).length = len ∧ (∀ y ∈ zs.take len, 0 ≤ y ∧ y ≤ 4294967295) ∧ PreAt w a len (zs.take len) := by
  rcases h with ⟨rfl, rfl, rfl, rfl⟩ | ⟨x, rfl, hlc, hcm, hzl, hcell, hwz⟩
  · exact ⟨by unfold maxLen; omega, rfl, fun y hy => by simp at hy, fun k hk => absurd hk (by omega)⟩
  · refine ⟨by omega, by simp; omega, fun y hy => bounds_u32 (hwz y (List.mem_of_mem_take hy)), fun k hk => ?_⟩
    obtain ⟨b, off, rfl, hc⟩ := ints_at hcell (by omega)
    have hk2 := hc k (by omega)
    refine ⟨b, off, rfl, World.block_lt_of_cell? _ _ hk2, ?_⟩
    rw [hk2]
    simp [hk]

theorem walk (a0 a1 : Option Addr) (len0 cap0 len1 cap1 : Nat) (z0 z1 : List Int) (z : Option Addr) (w : World) (w0 : IsRow .u32 w a0 len0 cap0 z0) (w1 : IsRow .u32 w a1 len1 cap1 z1) (hz : w.cell? ⟨1, 0, none⟩ = some (.pointer z)) (x : Int) (hx : 0 ≤ x ∧ x ≤ 255) :
    Calls Ybad.prog 4 #[.slice a0 len0 cap0, .slice a1 len1 cap1, .int .u8 x] w fun e w' => e = .returned (.bool true) ∧ Below w.heap.size w w' := by
  obtain ⟨m0, l0, r0, p0⟩ := w0.pre
  obtain ⟨m1, l1, r1, p1⟩ := w1.pre
  by_cases hbig : 1024 < len0 ∨ 1024 < len1
  · exact lawB_long a0 a1 len0 len1 cap0 cap1 x w hbig m0 m1
  · exact lawB_short a0 a1 len0 len1 cap0 cap1 x hx (z0.take len0) (z1.take len1) z w (by omega) (by omega) l0 l1 r0 r1 p0 p1 hz (World.block_lt_of_cell? _ _ hz)

set_option maxRecDepth 100000 in
theorem lifted (os : Os) (started : os.Started) (H : Type) (enc : TypeId × Value → H) :
    ReturnsInHanded {} Ybad.checked os 4 .any (fun w args => (Rows.lawS1270ARoundTripSpec.pre enc Ybad.prog Ybad.f4 [] false w args ∧ laidMetH Ybad.prog Rows.lawS1270ARoundTripRow.laid w) ∧ sizedMet enc Ybad.prog Ybad.f4 (OpenSpec.ofChange Rows.lawS1270ARoundTripSpec) false w args)
      (Rows.lawS1270ARoundTripSpec.post enc Ybad.prog Ybad.f4 false true false false) := by
  refine returnsInHanded_of_change_and (C := Ybad.checked) (X := fun w _ => laidMetH Ybad.prog Rows.lawS1270ARoundTripRow.laid w) (fun _ _ _ hh h => h.of_heap hh) own started (by kernel_rfl) Ybad.func4
    (ChangeSpec.witness_shaped (enc := enc) (C := Ybad.checked) (os := os) (X := fun w _ => laidMetH Ybad.prog Rows.lawS1270ARoundTripRow.laid w) false (World.laidAll Ybad.prog os Rows.lawS1270ARoundTripRow.laid) #[.slice none 0 0, .slice none 0 0, .int .u8 0] 8 (World.laidAll_os _ _ _)
      (World.shaped_of_ZipB (by kernel_rfl) (by kernel_rfl)) (by kernel_rfl) (by kernel_rfl) (by kernel_rfl)
      (by rw [MakeChecks.laidMetH_plain _ _ _ (by kernel_rfl)]; exact laidMet_laidAll _ (by kernel_rfl) (by kernel_rfl))) ?_
  intro W base args ds gs before hval0 hW _ _ hL _
  have hval : ∀ (j : Nat) t v, Ybad.f4.params[j]? = some t → args[j]? = some v → Value.okWide Ybad.prog W .any base t v := hval0
  have hW' := hW
  obtain ⟨p, q, hA0, hV, rfl, hfz, hnd⟩ := hW
  have hA : DataW.TrodAll enc Ybad.prog W 0 (fun _ => true) true Ybad.f4.params.toList args.toList ds p := hA0
  rw [Ybad.params4] at hA hval
  obtain ⟨v0, vs0, d0, ds0, p0, q0, hargs, rfl, rfl, h0, r0⟩ := trodAll_cons hA
  obtain ⟨v1, vs1, d1, ds1, p1, q1, rfl, rfl, rfl, h1, r1⟩ := trodAll_cons r0
  obtain ⟨v2, vs2, d2, ds2, p2, q2, rfl, rfl, rfl, h2, r2⟩ := trodAll_cons r1
  obtain ⟨rfl, rfl, rfl⟩ := trodAll_nil r2
  obtain rfl : args = #[v0, v1, v2] := by cases args; simp_all
  obtain ⟨rfl, rfl⟩ := trodVars_none hV
  obtain ⟨a0, len0, cap0, rfl⟩ := okWide_slice Ybad.underlying22 (hval 0 22 v0 rfl rfl)
  have k0 := h0
  have lt0 : ∀ x ∈ p0, x.block < W.heap.size := by obtain ⟨m, hm⟩ := k0; exact DataW.trod_lt m _ _ _ hm
  obtain ⟨z0, w0⟩ : ∃ zs, IsRow .u32 W a0 len0 cap0 zs := by
    obtain ⟨fuel, hf⟩ := h0
    rcases open_ints Ybad.underlying22 Ybad.underlying24 (by kernel_rfl) hf with ⟨hcs, _⟩ | ⟨x, l, c, zs, hcs, _, hl, hm, hz, _, hcell, hwz⟩
    · simp [Value.cells] at hcs
      obtain ⟨rfl, rfl, rfl⟩ := hcs
      exact ⟨[], .inl ⟨rfl, rfl, rfl, rfl⟩⟩
    · simp [Value.cells] at hcs
      obtain ⟨rfl, rfl, rfl⟩ := hcs
      exact ⟨zs, .inr ⟨_, rfl, hl, hm, by simpa using hz, hcell, hwz⟩⟩
  obtain ⟨a1, len1, cap1, rfl⟩ := okWide_slice Ybad.underlying22 (hval 1 22 v1 rfl rfl)
  have k1 := h1
  have lt1 : ∀ x ∈ p1, x.block < W.heap.size := by obtain ⟨m, hm⟩ := k1; exact DataW.trod_lt m _ _ _ hm
  obtain ⟨z1, w1⟩ : ∃ zs, IsRow .u32 W a1 len1 cap1 zs := by
    obtain ⟨fuel, hf⟩ := h1
    rcases open_ints Ybad.underlying22 Ybad.underlying24 (by kernel_rfl) hf with ⟨hcs, _⟩ | ⟨x, l, c, zs, hcs, _, hl, hm, hz, _, hcell, hwz⟩
    · simp [Value.cells] at hcs
      obtain ⟨rfl, rfl, rfl⟩ := hcs
      exact ⟨[], .inl ⟨rfl, rfl, rfl, rfl⟩⟩
    · simp [Value.cells] at hcs
      obtain ⟨rfl, rfl, rfl⟩ := hcs
      exact ⟨zs, .inr ⟨_, rfl, hl, hm, by simpa using hz, hcell, hwz⟩⟩
  obtain ⟨x, rfl, rfl, rfl, wx⟩ := open_int Ybad.underlying5 (hval 2 5 v2 rfl rfl) h2
  obtain ⟨z, hz⟩ := of_laid hL
  clear hA0 hval0
  refine (walk a0 a1 len0 cap0 len1 cap1 z0 z1 z W w0 w1 hz x (bounds_u8 wx)).mono fun e W' ⟨he, bel⟩ => ?_
  subst he
  exact ⟨_, rfl, _, _, _, [], _, [], hW', trodAll_mk1 (shut_bool Ybad.underlying4 _), (trodAll_cons_mk (Below.trod laidOut (by kernel_rfl) (of_decide_eq_true (by kernel_rfl)) k0 bel lt0) (trodAll_cons_mk (Below.trod laidOut (by kernel_rfl) (of_decide_eq_true (by kernel_rfl)) k1 bel lt1) (trodAll_cons_mk (shut_int Ybad.underlying5 wx) trodAll_mk0))), rfl, bel.frame _, fun h => by cases h⟩

theorem row_holds : Rows.LawS1270ARoundTripSaid :=
  OpenClaim.holds_of_wide 4 Ybad.f4 rfl rfl rfl rfl rfl rfl rfl ⟨rfl, rfl, rfl, rfl, rfl⟩ rfl rfl rfl rfl rfl (by kernel_rfl) Ybad.func4 (by kernel_rfl)
    (of_decide_eq_true (by kernel_rfl)) (by unfold Func.isWrapper; first | (rw [if_pos (by decide +kernel)]; kernel_rfl) | (rw [if_neg (by decide +kernel)]; exact ⟨rfl, rfl⟩))
    (fun os started H enc _ => lifted os started H enc)

/-- THE CARD. -/
theorem proved : Rows.LawS1270ARoundTripCardSaid :=
  Claim7.holds_tied_plain_at .later [] [.called, .called, .zero] true (true, "588f0a40c5bf9ebd8d6f38c16fca3f8443013a35b4d17a0bc88fc652c478ab7a") false
    row_holds (fun _ h => by cases h) (by kernel_rfl) (fun _ h => by cases h) lawS1270ARoundTrip_row_tie rfl ⟨rfl, rfl⟩ (by kernel_rfl) rfl
    (fun f fn hf hfn => by
      obtain rfl : f = 4 := Option.some.inj ((show Ybad.prog.funcNamed Rows.lawS1270ARoundTripRow.func = some 4 by kernel_rfl).symm.trans hf) |>.symm
      obtain rfl : fn = Ybad.f4 := (Option.some.inj (Ybad.func4.symm.trans hfn)).symm
      exact ⟨by kernel_rfl, fun j t ht => by
        rw [Ybad.params4] at ht
        have hm : t ∈ [22, 5] := by simpa using Array.mem_of_getElem? ht
        have hall : ([22, 5].all fun u => !Ybad.prog.wantsStandIn u) = true := by kernel_rfl
        exact (show Ybad.prog.wantsStandIn t = false by simpa using List.all_eq_true.1 hall t hm)⟩)
    (by kernel_rfl)
#print axioms proved
end Go.Proofs.YbulkzgwDoor.lawS1270ARoundTrip

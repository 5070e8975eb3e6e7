/-
  THE ROW OF LawS1272CGet, proved.
-/
import Derived.Test.YbulkzhyRows
import Derived.Test.YbulkzhyGetWalk
import Derived.ProofKit
import Derived.OpenShut
import Derived.ChangeOld
import Derived.Deep.Matrix
namespace Go.Proofs.Ybulkzhy.lawS1272CGet
open Go.ChangeShapes Go.WideShapes Go.ChangeAt Go.RowKit
set_option linter.unusedVariables false

theorem own : ownKnob Yba.prog.godebug = none := by kernel_rfl
theorem laidOut : laidOutB Yba.prog = true := by kernel_rfl
theorem cells50 : Yba.prog.cellsOf 50 = 1 := by kernel_rfl
theorem cells21 : Yba.prog.cellsOf 21 = 1 := by kernel_rfl

/-- What the walk is told of a slice of rows that came in. -/
def IsRows (w : World) (a : Option Addr) (len : Nat) : Prop := len ≤ maxLen ∧ ∃ ds : List (List Int), ds.length = len ∧ RowsAt w a len ds

theorem open_rows {H : Type} {enc : TypeId × Value → H} {w : World} {held : Bool} {fuel : Nat} {a : Option Addr} {len cap : Nat} {x : DataW H × List MemPlace}
    (h : DataW.trod enc Yba.prog w 0 (fun _ => true) held fuel 30 [.slice a len cap] = some x) : IsRows w a len := by
  rcases Deep.open_int_rows Yba.underlying30 Yba.underlying50 Yba.underlying21 cells50 cells21 h with ⟨hcs, _⟩ | ⟨ad, l, c, A, L, C, Z, hcs, _, hl, hm, _, hx⟩
  · simp at hcs
    obtain ⟨rfl, rfl, rfl⟩ := hcs
    exact ⟨by unfold maxLen; omega, [], rfl, fun k hk => absurd hk (by omega)⟩
  · simp at hcs
    obtain ⟨rfl, rfl, rfl⟩ := hcs
    refine ⟨by omega, (List.range len).map fun r => (Z r).take (L r), by simp, fun k hk => ?_⟩
    obtain ⟨h1, h2, h3, h4, h5, h6, h7⟩ := hx k (by omega)
    obtain ⟨b, off, spot⟩ := ad
    have hspot : spot = none := by simpa [Addr.add] using World.cell?_spot (hx 0 (by omega)).1
    subst hspot
    rw [add_plain] at h1
    have e : ((List.range len).map fun r => (Z r).take (L r)).getD k [] = (Z k).take (L k) := by simp [hk]
    have el : ((Z k).take (L k)).length = L k := by rw [List.length_take, h4]; omega
    refine ⟨b, off, A k, C k, rfl, World.block_lt_of_cell? _ _ h1, by rw [e, el]; exact h1, by rw [e, el]; omega, ?_⟩
    rw [e, el]
    cases hA : A k with
    | none =>
      have h0 := h6 hA
      exact Or.inl ⟨rfl, by omega, h0⟩
    | some ad' =>
      obtain ⟨b', o', spot'⟩ := ad'
      by_cases hz : L k = 0
      · exact Or.inr (Or.inl ⟨hz, _, rfl⟩)
      · have hc0 := (h7 _ hA).2 0 (by omega)
        have hspot' : spot' = none := by simpa [Addr.add] using World.cell?_spot hc0
        subst hspot'
        refine Or.inr (Or.inr ⟨b', o', rfl, ?_, fun c hc => ?_⟩)
        · rw [add_plain] at hc0; exact World.block_lt_of_cell? _ _ hc0
        · have := (h7 _ hA).2 c (by omega)
          rw [add_plain] at this
          rw [this]
          simp [hc]

theorem walk (a : Option Addr) (len cap : Nat) (s1 s2 : Int) (b : Bool) (d : Int) (w : World) (h : IsRows w a len) (w1 : (Lit.int .u16 s1).wf = true) (w2 : (Lit.int .u16 s2).wf = true) :
    Calls Yba.prog 6 #[.slice a len cap, .int .u16 s1, .int .u16 s2, .bool b, .int .i32 d] w fun e w' => e = .returned (.bool true) ∧ Below w.heap.size w w' := by
  obtain ⟨hm, ds, hl, hL⟩ := h
  have r1 : 0 ≤ s1 ∧ s1 ≤ 65535 := by simpa [Lit.wf, IntKind.min, IntKind.max, IntKind.signed, IntKind.bits] using w1
  have r2 : 0 ≤ s2 ∧ s2 ≤ 65535 := by simpa [Lit.wf, IntKind.min, IntKind.max, IntKind.signed, IntKind.bits] using w2
  obtain ⟨k1, rfl⟩ : ∃ k : Nat, s1 = k := ⟨s1.toNat, by omega⟩
  obtain ⟨k2, rfl⟩ : ∃ k : Nat, s2 = k := ⟨s2.toNat, by omega⟩
  exact getlaw_any a len cap ds w hm hl hL k1 k2 (by omega) (by omega) b d

set_option maxRecDepth 100000 in
theorem lifted (os : Os) (started : os.Started) (H : Type) (enc : TypeId × Value → H) :
    ReturnsInHanded {} Yba.checked os 6 .any (Rows.lawS1272CGetSpec.pre6 enc Yba.prog Yba.f6 Rows.lawS1272CGetRow.domain false) (Rows.lawS1272CGetSpec.post enc Yba.prog Yba.f6 false true false false) := by
  refine returnsInHanded_of_change (C := Yba.checked) own started (by kernel_rfl) Yba.func6
    (ChangeSpec.witness6 (enc := enc) (C := Yba.checked) false ⟨#[], #[.slice none 0 0, .int .u16 0, .int .u16 0, .bool false, .int .i32 0], []⟩ 8 (by kernel_rfl) (by kernel_rfl) (by kernel_rfl) (by kernel_rfl)) ?_
  intro W base args ds gs before hval0 hW hcnd _
  have hval : ∀ (j : Nat) t v, Yba.f6.params[j]? = some t → args[j]? = some v → Value.okWide Yba.prog W .any base t v := hval0
  have hW' := hW
  obtain ⟨p, q, hA0, hV, rfl, hfz, hnd⟩ := hW
  have hA : DataW.TrodAll enc Yba.prog W 0 (fun _ => true) true Yba.f6.params.toList args.toList ds p := hA0
  rw [Yba.params6] at hA hval
  obtain ⟨v0, vs0, d0, ds0, p0, q0, hargs, rfl, rfl, h0, r0⟩ := trodAll_cons hA
  obtain ⟨v1, vs1, d1, ds1, p1, q1, rfl, rfl, rfl, h1, r1⟩ := trodAll_cons r0
  obtain ⟨v2, vs2, d2, ds2, p2, q2, rfl, rfl, rfl, h2, r2⟩ := trodAll_cons r1
  obtain ⟨v3, vs3, d3, ds3, p3, q3, rfl, rfl, rfl, h3, r3⟩ := trodAll_cons r2
  obtain ⟨v4, vs4, d4, ds4, p4, q4, rfl, rfl, rfl, h4, r4⟩ := trodAll_cons r3
  obtain ⟨rfl, rfl, rfl⟩ := trodAll_nil r4
  obtain rfl : args = #[v0, v1, v2, v3, v4] := by cases args; simp_all
  obtain ⟨rfl, rfl⟩ := trodVars_none hV
  obtain ⟨a0, len0, cap0, rfl⟩ := okWide_slice Yba.underlying30 (hval 0 30 v0 rfl rfl)
  have k0 := h0
  have lt0 : ∀ x ∈ p0, x.block < W.heap.size := by obtain ⟨m, hm⟩ := k0; exact DataW.trod_lt m _ _ _ hm
  have w0 : IsRows W a0 len0 := by
    obtain ⟨fuel, hf⟩ := h0
    exact open_rows (by simpa [Value.cells] using hf)
  obtain ⟨a1, rfl, rfl, rfl, w1⟩ := open_int Yba.underlying31 (hval 1 31 v1 rfl rfl) h1
  obtain ⟨a2, rfl, rfl, rfl, w2⟩ := open_int Yba.underlying31 (hval 2 31 v2 rfl rfl) h2
  obtain ⟨a3, rfl, rfl, rfl⟩ := open_bool Yba.underlying4 (hval 3 4 v3 rfl rfl) h3
  obtain ⟨a4, rfl, rfl, rfl, w4⟩ := open_int Yba.underlying21 (hval 4 21 v4 rfl rfl) h4
  clear hA0 hval0
  refine (walk a0 len0 cap0 a1 a2 a3 a4 W w0 w1 w2).mono fun e W' ⟨he, bel⟩ => ?_
  subst he
  exact ⟨_, rfl, _, _, _, [], _, [], hW', trodAll_mk1 (shut_bool Yba.underlying4 _), (trodAll_cons_mk (Below.trod laidOut (by kernel_rfl) (of_decide_eq_true (by kernel_rfl)) k0 bel lt0) (trodAll_cons_mk (shut_int Yba.underlying31 w1) (trodAll_cons_mk (shut_int Yba.underlying31 w2) (trodAll_cons_mk (shut_bool Yba.underlying4 _) (trodAll_cons_mk (shut_int Yba.underlying21 w4) trodAll_mk0))))), rfl, bel.frame _, fun h => by cases h⟩

theorem over : Rows.lawS1272CGetRow.holds Yba.pinned (OpenSpec.ofChange Rows.lawS1272CGetSpec) :=
  OpenClaim.holds_of_wide 6 Yba.f6 rfl rfl rfl rfl rfl rfl rfl ⟨rfl, rfl, rfl, rfl, rfl⟩ rfl rfl rfl rfl rfl (by kernel_rfl) Yba.func6 (by kernel_rfl)
    (of_decide_eq_true (by kernel_rfl)) (by unfold Func.isWrapper; first | (rw [if_pos (by decide +kernel)]; kernel_rfl) | (rw [if_neg (by decide +kernel)]; exact ⟨rfl, rfl⟩))
    (fun os started H enc _ => lifted os started H enc)

theorem proved : Rows.LawS1272CGetSaid := over
#print axioms proved
end Go.Proofs.Ybulkzhy.lawS1272CGet

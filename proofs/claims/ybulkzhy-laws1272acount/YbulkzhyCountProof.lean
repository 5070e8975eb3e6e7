/-
  THE ROW OF LawS1272ACount, proved.
-/
import Derived.Test.YbulkzhyRows
import Derived.Test.YbulkzhyLawCount
import Derived.ProofKit
import Derived.OpenShut
import Derived.ChangeOld
import Derived.Deep.SlicePairs
namespace Go.Proofs.Ybulkzhy.lawS1272ACount
open Go.ChangeShapes Go.WideShapes Go.ChangeAt Go.RowKit
set_option linter.unusedVariables false

theorem own : ownKnob Yba.prog.godebug = none := by kernel_rfl
theorem laidOut : laidOutB Yba.prog = true := by kernel_rfl
theorem cells28 : Yba.prog.cellsOf 28 = 2 := by kernel_rfl
theorem cells25 : Yba.prog.cellsOf 25 = 1 := by kernel_rfl

/-- WHAT THE WALK IS TOLD OF A SLICE OF LINKS THAT CAME IN. -/
def IsLinks (w : World) (a : Option Addr) (len : Nat) : Prop := len ≤ maxLen ∧ ∃ ps : List (Int × Int), ps.length = len ∧ LinksAt w a len ps

theorem open_links {H : Type} {enc : TypeId × Value → H} {w : World} {spare : Nat → Bool} {held : Bool} {fuel : Nat} {a : Option Addr} {len cap : Nat} {x : DataW H × List MemPlace}
    (h : DataW.trod enc Yba.prog w 0 spare held fuel 22 [.slice a len cap] = some x) : IsLinks w a len := by
  rcases Deep.open_slice_pairs Yba.underlying22 Yba.underlying28 cells28 rfl rfl cells25 cells25 h with ⟨hcs, _⟩ | ⟨ad, l, c, m, n, V0, V1, D0, D1, P0, P1, hcs, _, hl, hm, hmm, _, hx⟩
  · simp at hcs
    obtain ⟨rfl, rfl, rfl⟩ := hcs
    exact ⟨by unfold maxLen; omega, [], rfl, fun k hk => absurd hk (by omega)⟩
  · simp at hcs
    obtain ⟨rfl, rfl, rfl⟩ := hcs
    have hlm : len ≤ m := by rw [hmm]; split <;> omega
    refine ⟨by omega, (List.range len).map fun i => (intOf (V0 i), intOf (V1 i)), by simp, fun k hk => ?_⟩
    obtain ⟨h1, h2, h3, h4⟩ := hx k (by omega)
    obtain ⟨y, e1, _, _⟩ := DataW.trod_int Yba.underlying25 h3
    obtain ⟨z, e2, _, _⟩ := DataW.trod_int Yba.underlying25 h4
    simp at e1 e2
    obtain ⟨b, off, spot⟩ := ad
    have hspot : spot = none := by simpa [Addr.add] using World.cell?_spot (hx 0 (by omega)).1
    subst hspot
    rw [add_plain] at h1 h2
    refine ⟨b, off, rfl, World.block_lt_of_cell? _ _ h1, ?_, ?_⟩
    · rw [h1, e1]; simp [hk, intOf, e1]
    · rw [← Nat.add_assoc] at h2; rw [h2, e2]; simp [hk, intOf, e2]

theorem walk (a : Option Addr) (len cap : Nat) (w : World) (h : IsLinks w a len) :
    Calls Yba.prog 4 #[.slice a len cap] w fun e w' => e = .returned (.bool true) ∧ Below w.heap.size w w' := by
  obtain ⟨hm, ps, hl, hL⟩ := h
  by_cases hbig : 1024 < len
  · exact count_long a len cap w hbig hm
  · exact count_short a len cap ps w (by omega) hl hL

set_option maxRecDepth 100000 in
theorem lifted (os : Os) (started : os.Started) (H : Type) (enc : TypeId × Value → H) :
    ReturnsInHanded {} Yba.checked os 4 .any (Rows.lawS1272ACountSpec.pre6 enc Yba.prog Yba.f4 Rows.lawS1272ACountRow.domain false) (Rows.lawS1272ACountSpec.post enc Yba.prog Yba.f4 false true false false) := by
  refine returnsInHanded_of_change (C := Yba.checked) own started (by kernel_rfl) Yba.func4
    (ChangeSpec.witness6 (enc := enc) (C := Yba.checked) false ⟨#[], #[.slice none 0 0], []⟩ 8 (by kernel_rfl) (by kernel_rfl) (by kernel_rfl) (by kernel_rfl)) ?_
  intro W base args ds gs before hval0 hW hcnd _
  have hval : ∀ (j : Nat) t v, Yba.f4.params[j]? = some t → args[j]? = some v → Value.okWide Yba.prog W .any base t v := hval0
  have hW' := hW
  obtain ⟨p, q, hA0, hV, rfl, hfz, hnd⟩ := hW
  have hA : DataW.TrodAll enc Yba.prog W 0 (fun _ => true) true Yba.f4.params.toList args.toList ds p := hA0
  rw [Yba.params4] at hA hval
  obtain ⟨v0, vs0, d0, ds0, p0, q0, hargs, rfl, rfl, h0, r0⟩ := trodAll_cons hA
  obtain ⟨rfl, rfl, rfl⟩ := trodAll_nil r0
  obtain rfl : args = #[v0] := by cases args; simp_all
  obtain ⟨rfl, rfl⟩ := trodVars_none hV
  obtain ⟨a0, len0, cap0, rfl⟩ := okWide_slice Yba.underlying22 (hval 0 22 v0 rfl rfl)
  have k0 := h0
  have lt0 : ∀ x ∈ p0, x.block < W.heap.size := by obtain ⟨m, hm⟩ := k0; exact DataW.trod_lt m _ _ _ hm
  have w0 : IsLinks W a0 len0 := by
    obtain ⟨fuel, hf⟩ := h0
    exact open_links (by simpa [Value.cells] using hf)
  clear hA0 hval0
  refine (walk a0 len0 cap0 W w0).mono fun e W' ⟨he, bel⟩ => ?_
  subst he
  exact ⟨_, rfl, _, _, _, [], _, [], hW', trodAll_mk1 (shut_bool Yba.underlying4 _), (trodAll_cons_mk (Below.trod laidOut (by kernel_rfl) (of_decide_eq_true (by kernel_rfl)) k0 bel lt0) trodAll_mk0), rfl, bel.frame _, fun h => by cases h⟩

theorem over : Rows.lawS1272ACountRow.holds Yba.pinned (OpenSpec.ofChange Rows.lawS1272ACountSpec) :=
  OpenClaim.holds_of_wide 4 Yba.f4 rfl rfl rfl rfl rfl rfl rfl ⟨rfl, rfl, rfl, rfl, rfl⟩ rfl rfl rfl rfl rfl (by kernel_rfl) Yba.func4 (by kernel_rfl)
    (of_decide_eq_true (by kernel_rfl)) (by unfold Func.isWrapper; first | (rw [if_pos (by decide +kernel)]; kernel_rfl) | (rw [if_neg (by decide +kernel)]; exact ⟨rfl, rfl⟩))
    (fun os started H enc _ => lifted os started H enc)

theorem proved : Rows.LawS1272ACountSaid := over
#print axioms proved
end Go.Proofs.Ybulkzhy.lawS1272ACount

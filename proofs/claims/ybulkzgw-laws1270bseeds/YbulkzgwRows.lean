/-
  No cell of these rows narrows 'for every input' (looked for: loops, veiled, ifaces, maps, wideKeys, modest, calm, conditions, laid).
  DERIVED. THE GIVEN ROWS OF THIS SEAT. 1 by the template 'for every input the law returns true; each argument reads behind the call as it read before'; 0 by the template 'total and deterministic' (their statements: YbulkzgwTotals.lean).
  GIVEN WITH THE SEED: the statements are not yours to turn. If you find one false, say at which input.
  Laid BY PROGRAM, IN A SANDBOX (cutbox-rows.mjs): the forced cells as the released guide's own fill.sh prints them over the translation e5e386424c086c31… (all of the seat's roots in one cut). By AI agents, Wed Nov 11 2026. No macro, syntax, notation, axiom, sorry.
-/
import Derived.Test.YbulkzgwChecked
import GoSem.Claim
import GoSem.ClaimJoined
import GoSem.ClaimMapViews
import Derived.JoinedTies
import Derived.KernelRfl
namespace Go.Proofs.Ybulkzgw
/- THE CELL 'sum', in the pinned program and in every row, IS THE sha256 OF THE DUMP (.gsa) THAT YbulkzgwProg.lean LOADS. Nothing in Lean hashes anything: it is a label: what it is worth is what the hold of that sum in a sandbox is worth. -/
noncomputable def Yba.pinned : Pinned := { name := "ybulkzgw", sum := "e5e386424c086c31fa01e7e1477d5819c664884e9383721a0712020e5368e564", checked := Yba.checked }
namespace Rows
def none {H : Type} : Left H := { results := [], args := [] }

/-- 'sim.LawS1270BSeeds': WHATEVER THE INPUT: true; the input reads as it did. -/
def lawS1270BSeedsSpec : ChangeSpec := { name := "lawS1270BSeeds", fn := fun _ => fun
  | [d1, d2, d3, d4, d5] => { results := [.lit (.bool true)], args := [d1, d2, d3, d4, d5] }
  | _ => none }
def lawS1270BSeedsRow : OpenClaim := { program := "ybulkzgw", sum := "e5e386424c086c31fa01e7e1477d5819c664884e9383721a0712020e5368e564", func := "example.com/corollary/corollary/internal/sim.LawS1270BSeeds", spec := "lawS1270BSeeds", unfollowed := true, recurses := true, apart := false }
def LawS1270BSeedsSaid : Prop := lawS1270BSeedsRow.holds Yba.pinned (OpenSpec.ofChange lawS1270BSeedsSpec)

/-- ITS FALSE NEIGHBOUR: 'it returns false'. Refute it at one input. -/
def lawS1270BSeedsWrong : ChangeSpec := { name := "lawS1270BSeeds", fn := fun _ => fun
  | [d1, d2, d3, d4, d5] => { results := [.lit (.bool false)], args := [d1, d2, d3, d4, d5] }
  | _ => none }
def LawS1270BSeedsWrongFalsely : Prop := lawS1270BSeedsRow.holds Yba.pinned (OpenSpec.ofChange lawS1270BSeedsWrong)

end Rows
end Go.Proofs.Ybulkzgw

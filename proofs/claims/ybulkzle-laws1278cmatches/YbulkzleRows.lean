/-
  No cell of these rows narrows 'for every input' (looked for: loops, veiled, ifaces, maps, wideKeys, modest, calm, conditions, laid).
  DERIVED. THE GIVEN ROWS OF THIS SEAT. 2 by the template 'for every input the law returns true; each argument reads behind the call as it read before'; 0 by the template 'total and deterministic' (their statements: YbulkzleTotals.lean).
  GIVEN WITH THE SEED: the statements are not yours to turn. If you find one false, say at which input.
  Laid BY PROGRAM, IN A SANDBOX (cutbox-rows.mjs): the forced cells as the released guide's own fill.sh prints them over the translation 012af28570c868a8… (all of the seat's roots in one cut). By AI agents, Wed Nov 11 2026. No macro, syntax, notation, axiom, sorry.
-/
import Derived.Test.YbulkzleChecked
import GoSem.Claim
import GoSem.ClaimJoined
import GoSem.ClaimMapViews
import Derived.JoinedTies
import Derived.KernelRfl
namespace Go.Proofs.Ybulkzle
/- THE CELL 'sum', in the pinned program and in every row, IS THE sha256 OF THE DUMP (.gsa) THAT YbulkzleProg.lean LOADS. Nothing in Lean hashes anything: it is a label: what it is worth is what the hold of that sum in a sandbox is worth. -/
noncomputable def Yba.pinned : Pinned := { name := "ybulkzle", sum := "012af28570c868a80b198bcbdc606c1dfe8e13133f3c1ab1c127497dedbfdb10", checked := Yba.checked }
namespace Rows
def none {H : Type} : Left H := { results := [], args := [] }

/-- 'sim.LawS1278CMatches': WHATEVER THE INPUT: true; the input reads as it did. -/
def lawS1278CMatchesSpec : ChangeSpec := { name := "lawS1278CMatches", fn := fun _ => fun
  | [d1, d2, d3, d4, d5, d6, d7, d8, d9, d10] => { results := [.lit (.bool true)], args := [d1, d2, d3, d4, d5, d6, d7, d8, d9, d10] }
  | _ => none }
def lawS1278CMatchesRow : OpenClaim := { program := "ybulkzle", sum := "012af28570c868a80b198bcbdc606c1dfe8e13133f3c1ab1c127497dedbfdb10", func := "example.com/lodestar/lodestar/internal/sim.LawS1278CMatches", spec := "lawS1278CMatches", apart := false }
def LawS1278CMatchesSaid : Prop := lawS1278CMatchesRow.holds Yba.pinned (OpenSpec.ofChange lawS1278CMatchesSpec)

/-- ITS FALSE NEIGHBOUR: 'it returns false'. Refute it at one input. -/
def lawS1278CMatchesWrong : ChangeSpec := { name := "lawS1278CMatches", fn := fun _ => fun
  | [d1, d2, d3, d4, d5, d6, d7, d8, d9, d10] => { results := [.lit (.bool false)], args := [d1, d2, d3, d4, d5, d6, d7, d8, d9, d10] }
  | _ => none }
def LawS1278CMatchesWrongFalsely : Prop := lawS1278CMatchesRow.holds Yba.pinned (OpenSpec.ofChange lawS1278CMatchesWrong)

/-- 'sim.LawS1278CSelfZero': WHATEVER THE INPUT: true; the input reads as it did. -/
def lawS1278CSelfZeroSpec : ChangeSpec := { name := "lawS1278CSelfZero", fn := fun _ => fun
  | [d1, d2, d3, d4] => { results := [.lit (.bool true)], args := [d1, d2, d3, d4] }
  | _ => none }
def lawS1278CSelfZeroRow : OpenClaim := { program := "ybulkzle", sum := "012af28570c868a80b198bcbdc606c1dfe8e13133f3c1ab1c127497dedbfdb10", func := "example.com/lodestar/lodestar/internal/sim.LawS1278CSelfZero", spec := "lawS1278CSelfZero", apart := false }
def LawS1278CSelfZeroSaid : Prop := lawS1278CSelfZeroRow.holds Yba.pinned (OpenSpec.ofChange lawS1278CSelfZeroSpec)

/-- ITS FALSE NEIGHBOUR: 'it returns false'. Refute it at one input. -/
def lawS1278CSelfZeroWrong : ChangeSpec := { name := "lawS1278CSelfZero", fn := fun _ => fun
  | [d1, d2, d3, d4] => { results := [.lit (.bool false)], args := [d1, d2, d3, d4] }
  | _ => none }
def LawS1278CSelfZeroWrongFalsely : Prop := lawS1278CSelfZeroRow.holds Yba.pinned (OpenSpec.ofChange lawS1278CSelfZeroWrong)

end Rows
end Go.Proofs.Ybulkzle

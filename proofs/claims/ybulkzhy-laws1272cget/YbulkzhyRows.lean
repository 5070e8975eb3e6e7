/-
  No cell of these rows narrows 'for every input' (looked for: loops, veiled, ifaces, maps, wideKeys, modest, calm, conditions, laid).
  DERIVED. THE GIVEN ROWS OF THIS SEAT. 4 by the template 'for every input the law returns true; each argument reads behind the call as it read before'; 0 by the template 'total and deterministic' (their statements: YbulkzhyTotals.lean).
  GIVEN WITH THE SEED: the statements are not yours to turn. If you find one false, say at which input.
  Laid BY PROGRAM, IN A SANDBOX (cutbox-rows.mjs): the forced cells as the released guide's own fill.sh prints them over the translation 409f7008c3160f47… (all of the seat's roots in one cut). By AI agents, Wed Nov 11 2026. No macro, syntax, notation, axiom, sorry.
-/
import Derived.Test.YbulkzhyChecked
import GoSem.Claim
import GoSem.ClaimJoined
import GoSem.ClaimMapViews
import Derived.JoinedTies
import Derived.KernelRfl
namespace Go.Proofs.Ybulkzhy
/- THE CELL 'sum', in the pinned program and in every row, IS THE sha256 OF THE DUMP (.gsa) THAT YbulkzhyProg.lean LOADS. Nothing in Lean hashes anything: it is a label: what it is worth is what the hold of that sum in a sandbox is worth. -/
noncomputable def Yba.pinned : Pinned := { name := "ybulkzhy", sum := "409f7008c3160f47d9a82c992443f6d978190103464684f2940c92df0d39314b", checked := Yba.checked }
namespace Rows
def none {H : Type} : Left H := { results := [], args := [] }

/-- 'overway.LawS1272ASet': WHATEVER THE INPUT: true; the input reads as it did. -/
def lawS1272ASetSpec : ChangeSpec := { name := "lawS1272ASet", fn := fun _ => fun
  | [d] => { results := [.lit (.bool true)], args := [d] }
  | _ => none }
def lawS1272ASetRow : OpenClaim := { program := "ybulkzhy", sum := "409f7008c3160f47d9a82c992443f6d978190103464684f2940c92df0d39314b", func := "example.com/overway/overway.LawS1272ASet", spec := "lawS1272ASet", unfollowed := true, recurses := true, apart := false }
def LawS1272ASetSaid : Prop := lawS1272ASetRow.holds Yba.pinned (OpenSpec.ofChange lawS1272ASetSpec)

/-- ITS FALSE NEIGHBOUR: 'it returns false'. Refute it at one input. -/
def lawS1272ASetWrong : ChangeSpec := { name := "lawS1272ASet", fn := fun _ => fun
  | [d] => { results := [.lit (.bool false)], args := [d] }
  | _ => none }
def LawS1272ASetWrongFalsely : Prop := lawS1272ASetRow.holds Yba.pinned (OpenSpec.ofChange lawS1272ASetWrong)

/-- 'overway.LawS1272ACount': WHATEVER THE INPUT: true; the input reads as it did. -/
def lawS1272ACountSpec : ChangeSpec := { name := "lawS1272ACount", fn := fun _ => fun
  | [d] => { results := [.lit (.bool true)], args := [d] }
  | _ => none }
def lawS1272ACountRow : OpenClaim := { program := "ybulkzhy", sum := "409f7008c3160f47d9a82c992443f6d978190103464684f2940c92df0d39314b", func := "example.com/overway/overway.LawS1272ACount", spec := "lawS1272ACount", unfollowed := true, recurses := true, apart := false }
def LawS1272ACountSaid : Prop := lawS1272ACountRow.holds Yba.pinned (OpenSpec.ofChange lawS1272ACountSpec)

/-- ITS FALSE NEIGHBOUR: 'it returns false'. Refute it at one input. -/
def lawS1272ACountWrong : ChangeSpec := { name := "lawS1272ACount", fn := fun _ => fun
  | [d] => { results := [.lit (.bool false)], args := [d] }
  | _ => none }
def LawS1272ACountWrongFalsely : Prop := lawS1272ACountRow.holds Yba.pinned (OpenSpec.ofChange lawS1272ACountWrong)

/-- 'overway.LawS1272CLowerBound': WHATEVER THE INPUT: true; the input reads as it did. -/
def lawS1272CLowerBoundSpec : ChangeSpec := { name := "lawS1272CLowerBound", fn := fun _ => fun
  | [d1, d2, d3, d4, d5] => { results := [.lit (.bool true)], args := [d1, d2, d3, d4, d5] }
  | _ => none }
def lawS1272CLowerBoundRow : OpenClaim := { program := "ybulkzhy", sum := "409f7008c3160f47d9a82c992443f6d978190103464684f2940c92df0d39314b", func := "example.com/overway/overway.LawS1272CLowerBound", spec := "lawS1272CLowerBound", unfollowed := true, recurses := true, apart := false }
def LawS1272CLowerBoundSaid : Prop := lawS1272CLowerBoundRow.holds Yba.pinned (OpenSpec.ofChange lawS1272CLowerBoundSpec)

/-- ITS FALSE NEIGHBOUR: 'it returns false'. Refute it at one input. -/
def lawS1272CLowerBoundWrong : ChangeSpec := { name := "lawS1272CLowerBound", fn := fun _ => fun
  | [d1, d2, d3, d4, d5] => { results := [.lit (.bool false)], args := [d1, d2, d3, d4, d5] }
  | _ => none }
def LawS1272CLowerBoundWrongFalsely : Prop := lawS1272CLowerBoundRow.holds Yba.pinned (OpenSpec.ofChange lawS1272CLowerBoundWrong)

/-- 'overway.LawS1272CGet': WHATEVER THE INPUT: true; the input reads as it did. -/
def lawS1272CGetSpec : ChangeSpec := { name := "lawS1272CGet", fn := fun _ => fun
  | [d1, d2, d3, d4, d5] => { results := [.lit (.bool true)], args := [d1, d2, d3, d4, d5] }
  | _ => none }
def lawS1272CGetRow : OpenClaim := { program := "ybulkzhy", sum := "409f7008c3160f47d9a82c992443f6d978190103464684f2940c92df0d39314b", func := "example.com/overway/overway.LawS1272CGet", spec := "lawS1272CGet", unfollowed := true, recurses := true, apart := false }
def LawS1272CGetSaid : Prop := lawS1272CGetRow.holds Yba.pinned (OpenSpec.ofChange lawS1272CGetSpec)

/-- ITS FALSE NEIGHBOUR: 'it returns false'. Refute it at one input. -/
def lawS1272CGetWrong : ChangeSpec := { name := "lawS1272CGet", fn := fun _ => fun
  | [d1, d2, d3, d4, d5] => { results := [.lit (.bool false)], args := [d1, d2, d3, d4, d5] }
  | _ => none }
def LawS1272CGetWrongFalsely : Prop := lawS1272CGetRow.holds Yba.pinned (OpenSpec.ofChange lawS1272CGetWrong)

end Rows
end Go.Proofs.Ybulkzhy

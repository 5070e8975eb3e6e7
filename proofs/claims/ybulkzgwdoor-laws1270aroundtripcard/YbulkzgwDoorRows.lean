/-
  NARROWER THAN 'FOR EVERY INPUT', by the rows' own cells (each row's printed sentence says how): LawS1270AAddrs: laid · LawS1270ARoundTrip: laid.
  DERIVED. THE GIVEN ROWS OF THIS SEAT. 2 by the template 'for every input the law returns true; each argument reads behind the call as it read before'; 0 by the template 'total and deterministic' (their statements: YbulkzgwDoorTotals.lean).
  GIVEN WITH THE SEED: the statements are not yours to turn. If you find one false, say at which input.
  Laid BY PROGRAM, IN A SANDBOX (cutbox-rows.mjs): the forced cells as the released guide's own fill.sh prints them over the translation 9c68089a55c6976c… (all of the seat's roots in one cut). By AI agents, Wed Nov 11 2026. No macro, syntax, notation, axiom, sorry.
-/
import Derived.Test.YbulkzgwDoorChecked
import GoSem.Claim
import GoSem.ClaimJoined
import GoSem.ClaimMapViews
import Derived.JoinedTies
import Derived.KernelRfl
namespace Go.Proofs.YbulkzgwDoor
/- THE CELL 'sum', in the pinned program and in every row, IS THE sha256 OF THE DUMP (.gsa) THAT YbulkzgwDoorProg.lean LOADS. Nothing in Lean hashes anything: it is a label: what it is worth is what the hold of that sum in a sandbox is worth. -/
noncomputable def Ybad.pinned : Pinned := { name := "ybulkzgwdoor", sum := "9c68089a55c6976c09230e5939fc13a514da5ff04959eff84675edf331f27326", checked := Ybad.checked }
namespace Rows
def none {H : Type} : Left H := { results := [], args := [] }

/- WHAT THE LISTED PACKAGE-LEVEL VARIABLES READ AS WHEN THE CALL BEGINS. Each datum BY PROGRAM (the guide's laid-datum.mjs) off the statement by which the dump's own 'gosem.cut.vars' lays the variable. In a bare row this is a premise. The card (YbulkzgwDoorCards.lean) ties it to the program's text. -/
def laid_net_netip_z4 {H : Type} : DataW H := .agg [.ptr (.agg [.lit (.bool false), .lit (.string [])])]
def laid_net_netip_z6noz {H : Type} : DataW H := .agg [.ptr (.agg [.lit (.bool true), .lit (.string [])])]
def laid_net_netip_z0 {H : Type} : DataW H := .agg [.nil]

/-- 'live.LawS1270AAddrs': WHATEVER THE INPUT: true; the input reads as it did. -/
def lawS1270AAddrsSpec : ChangeSpec := { name := "lawS1270AAddrs", fn := fun _ => fun
  | [d1, d2] => { results := [.lit (.bool true)], args := [d1, d2] }
  | _ => none }
def lawS1270AAddrsRow : OpenClaim := { program := "ybulkzgwdoor", sum := "9c68089a55c6976c09230e5939fc13a514da5ff04959eff84675edf331f27326", func := "example.com/corollary/corollary/internal/live.LawS1270AAddrs", spec := "lawS1270AAddrs", named := ["encoding/binary.BigEndian", "net/netip.z4"], apart := false, laid := [("net/netip.z4", laid_net_netip_z4)] }
def LawS1270AAddrsSaid : Prop := lawS1270AAddrsRow.holds Ybad.pinned (OpenSpec.ofChange lawS1270AAddrsSpec)

/-- ITS FALSE NEIGHBOUR: 'it returns false'. Refute it at one input. -/
def lawS1270AAddrsWrong : ChangeSpec := { name := "lawS1270AAddrs", fn := fun _ => fun
  | [d1, d2] => { results := [.lit (.bool false)], args := [d1, d2] }
  | _ => none }
def LawS1270AAddrsWrongFalsely : Prop := lawS1270AAddrsRow.holds Ybad.pinned (OpenSpec.ofChange lawS1270AAddrsWrong)

/-- 'live.LawS1270ARoundTrip': WHATEVER THE INPUT: true; the input reads as it did. -/
def lawS1270ARoundTripSpec : ChangeSpec := { name := "lawS1270ARoundTrip", fn := fun _ => fun
  | [d1, d2, d3] => { results := [.lit (.bool true)], args := [d1, d2, d3] }
  | _ => none }
def lawS1270ARoundTripRow : OpenClaim := { program := "ybulkzgwdoor", sum := "9c68089a55c6976c09230e5939fc13a514da5ff04959eff84675edf331f27326", func := "example.com/corollary/corollary/internal/live.LawS1270ARoundTrip", spec := "lawS1270ARoundTrip", named := ["encoding/binary.BigEndian", "net/netip.z4", "net/netip.z0", "net/netip.z6noz"], apart := false, laid := [("net/netip.z4", laid_net_netip_z4), ("net/netip.z6noz", laid_net_netip_z6noz), ("net/netip.z0", laid_net_netip_z0)] }
def LawS1270ARoundTripSaid : Prop := lawS1270ARoundTripRow.holds Ybad.pinned (OpenSpec.ofChange lawS1270ARoundTripSpec)

/-- ITS FALSE NEIGHBOUR: 'it returns false'. Refute it at one input. -/
def lawS1270ARoundTripWrong : ChangeSpec := { name := "lawS1270ARoundTrip", fn := fun _ => fun
  | [d1, d2, d3] => { results := [.lit (.bool false)], args := [d1, d2, d3] }
  | _ => none }
def LawS1270ARoundTripWrongFalsely : Prop := lawS1270ARoundTripRow.holds Ybad.pinned (OpenSpec.ofChange lawS1270ARoundTripWrong)

end Rows
end Go.Proofs.YbulkzgwDoor

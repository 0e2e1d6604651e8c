/-
  NARROWER THAN 'FOR EVERY INPUT', by the rows' own cells (each row's printed sentence says how): LawS7536BWhole: laid.
  DERIVED. THE GIVEN ROWS OF THIS SEAT. 1 by the template 'for every input the law returns true; each argument reads behind the call as it read before'; 0 by the template 'total and deterministic' (their statements: YbulkezawDoorTotals.lean).
  GIVEN WITH THE SEED: the statements are not yours to turn. If you find one false, say at which input.
  Laid BY PROGRAM, IN A SANDBOX (cutbox-rows.mjs): the forced cells as the released guide's own fill.sh prints them over the translation 573d5036c166e744… (all of the seat's roots in one cut). By AI agents, Wed Nov 11 2026. No macro, syntax, notation, axiom, sorry.
-/
import Derived.Test.YbulkezawDoorChecked
import GoSem.Claim
import GoSem.ClaimJoined
import GoSem.ClaimMapViews
import Derived.JoinedTies
import Derived.KernelRfl
namespace Go.Proofs.YbulkezawDoor
/- THE CELL 'sum', in the pinned program and in every row, IS THE sha256 OF THE DUMP (.gsa) THAT YbulkezawDoorProg.lean LOADS. Nothing in Lean hashes anything: it is a label: what it is worth is what the hold of that sum in a sandbox is worth. -/
noncomputable def Ybad.pinned : Pinned := { name := "ybulkezawdoor", sum := "573d5036c166e7440f4d0d7ec2fd01ef335631cd58af800ddc27c4addda999fe", checked := Ybad.checked }
namespace Rows
def none {H : Type} : Left H := { results := [], args := [] }

/- WHAT THE LISTED PACKAGE-LEVEL VARIABLES READ AS WHEN THE CALL BEGINS. Each datum BY PROGRAM (the guide's laid-datum.mjs) off the statement by which the dump's own 'gosem.cut.vars' lays the variable. In a bare row this is a premise. The card (YbulkezawDoorCards.lean) ties it to the program's text. -/
def laid_net_netip_z4 {H : Type} : DataW H := .agg [.ptr (.agg [.lit (.bool false), .lit (.string [])])]

/-- 'dhcp4.LawS7536BWhole': WHATEVER THE INPUT: true; the input reads as it did. -/
def lawS7536BWholeSpec : ChangeSpec := { name := "lawS7536BWhole", fn := fun _ => fun
  | [d1, d2, d3] => { results := [.lit (.bool true)], args := [d1, d2, d3] }
  | _ => none }
def lawS7536BWholeRow : OpenClaim := { program := "ybulkezawdoor", sum := "573d5036c166e7440f4d0d7ec2fd01ef335631cd58af800ddc27c4addda999fe", func := "example.com/leaseweave/leaseweave/internal/dhcp4.LawS7536BWhole", spec := "lawS7536BWhole", named := ["net/netip.z4"], apart := false, laid := [("net/netip.z4", laid_net_netip_z4)] }
def LawS7536BWholeSaid : Prop := lawS7536BWholeRow.holds Ybad.pinned (OpenSpec.ofChange lawS7536BWholeSpec)

/-- ITS FALSE NEIGHBOUR: 'it returns false'. Refute it at one input. -/
def lawS7536BWholeWrong : ChangeSpec := { name := "lawS7536BWhole", fn := fun _ => fun
  | [d1, d2, d3] => { results := [.lit (.bool false)], args := [d1, d2, d3] }
  | _ => none }
def LawS7536BWholeWrongFalsely : Prop := lawS7536BWholeRow.holds Ybad.pinned (OpenSpec.ofChange lawS7536BWholeWrong)

end Rows
end Go.Proofs.YbulkezawDoor

/-
  No cell of these rows narrows 'for every input' (looked for: loops, veiled, ifaces, maps, wideKeys, modest, calm, conditions, laid).
  DERIVED. THE GIVEN ROWS OF THIS SEAT. 1 by the template 'for every input the law returns true; each argument reads behind the call as it read before'; 0 by the template 'total and deterministic' (their statements: YbulkeyzuTotals.lean).
  GIVEN WITH THE SEED: the statements are not yours to turn. If you find one false, say at which input.
  Laid BY PROGRAM, IN A SANDBOX (cutbox-rows.mjs): the forced cells as the released guide's own fill.sh prints them over the translation 05dc4e12c8146429… (all of the seat's roots in one cut). By AI agents, Wed Nov 11 2026. No macro, syntax, notation, axiom, sorry.
-/
import Derived.Test.YbulkeyzuChecked
import GoSem.Claim
import GoSem.ClaimJoined
import GoSem.ClaimMapViews
import Derived.JoinedTies
import Derived.KernelRfl
namespace Go.Proofs.Ybulkeyzu
/- THE CELL 'sum', in the pinned program and in every row, IS THE sha256 OF THE DUMP (.gsa) THAT YbulkeyzuProg.lean LOADS. Nothing in Lean hashes anything: it is a label: what it is worth is what the hold of that sum in a sandbox is worth. -/
noncomputable def Yba.pinned : Pinned := { name := "ybulkeyzu", sum := "05dc4e12c8146429d833b0c8b8d56cfe5afdaaf495b7f7820c80029f23f4018d", checked := Yba.checked }
namespace Rows
def none {H : Type} : Left H := { results := [], args := [] }

/-- 'model.LawS7534BWhole': WHATEVER THE INPUT: true; the input reads as it did. -/
def lawS7534BWholeSpec : ChangeSpec := { name := "lawS7534BWhole", fn := fun _ => fun
  | [d1, d2, d3] => { results := [.lit (.bool true)], args := [d1, d2, d3] }
  | _ => none }
def lawS7534BWholeRow : OpenClaim := { program := "ybulkeyzu", sum := "05dc4e12c8146429d833b0c8b8d56cfe5afdaaf495b7f7820c80029f23f4018d", func := "example.com/lodestack/lodestack/model.LawS7534BWhole", spec := "lawS7534BWhole", recurses := true, apart := false }
def LawS7534BWholeSaid : Prop := lawS7534BWholeRow.holds Yba.pinned (OpenSpec.ofChange lawS7534BWholeSpec)

/-- ITS FALSE NEIGHBOUR: 'it returns false'. Refute it at one input. -/
def lawS7534BWholeWrong : ChangeSpec := { name := "lawS7534BWhole", fn := fun _ => fun
  | [d1, d2, d3] => { results := [.lit (.bool false)], args := [d1, d2, d3] }
  | _ => none }
def LawS7534BWholeWrongFalsely : Prop := lawS7534BWholeRow.holds Yba.pinned (OpenSpec.ofChange lawS7534BWholeWrong)

end Rows
end Go.Proofs.Ybulkeyzu

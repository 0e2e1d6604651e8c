/-
  No cell of these rows narrows 'for every input' (looked for: loops, veiled, ifaces, maps, wideKeys, modest, calm, conditions, laid).
  DERIVED. THE GIVEN ROWS OF THIS SEAT. 3 by the template 'for every input the law returns true; each argument reads behind the call as it read before'; 0 by the template 'total and deterministic' (their statements: YbulkeyzgTotals.lean).
  GIVEN WITH THE SEED: the statements are not yours to turn. If you find one false, say at which input.
  Laid BY PROGRAM, IN A SANDBOX (cutbox-rows.mjs): the forced cells as the released guide's own fill.sh prints them over the translation d09242f05fd48544… (all of the seat's roots in one cut). By AI agents, Wed Nov 11 2026. No macro, syntax, notation, axiom, sorry.
-/
import Derived.Test.YbulkeyzgChecked
import GoSem.Claim
import GoSem.ClaimJoined
import GoSem.ClaimMapViews
import Derived.JoinedTies
import Derived.KernelRfl
namespace Go.Proofs.Ybulkeyzg
/- THE CELL 'sum', in the pinned program and in every row, IS THE sha256 OF THE DUMP (.gsa) THAT YbulkeyzgProg.lean LOADS. Nothing in Lean hashes anything: it is a label: what it is worth is what the hold of that sum in a sandbox is worth. -/
noncomputable def Yba.pinned : Pinned := { name := "ybulkeyzg", sum := "d09242f05fd48544146c9c091350a7149b67cc5808f7613339cfc86abfece83c", checked := Yba.checked }
namespace Rows
def none {H : Type} : Left H := { results := [], args := [] }

/-- 'sim.LawS7533AWhole': WHATEVER THE INPUT: true; the input reads as it did. -/
def lawS7533AWholeSpec : ChangeSpec := { name := "lawS7533AWhole", fn := fun _ => fun
  | [d1, d2, d3] => { results := [.lit (.bool true)], args := [d1, d2, d3] }
  | _ => none }
def lawS7533AWholeRow : OpenClaim := { program := "ybulkeyzg", sum := "d09242f05fd48544146c9c091350a7149b67cc5808f7613339cfc86abfece83c", func := "example.com/waitgraph/waitgraph/internal/sim.LawS7533AWhole", spec := "lawS7533AWhole", plainKeys := false, apart := false }
def LawS7533AWholeSaid : Prop := lawS7533AWholeRow.holds Yba.pinned (OpenSpec.ofChange lawS7533AWholeSpec)

/-- ITS FALSE NEIGHBOUR: 'it returns false'. Refute it at one input. -/
def lawS7533AWholeWrong : ChangeSpec := { name := "lawS7533AWhole", fn := fun _ => fun
  | [d1, d2, d3] => { results := [.lit (.bool false)], args := [d1, d2, d3] }
  | _ => none }
def LawS7533AWholeWrongFalsely : Prop := lawS7533AWholeRow.holds Yba.pinned (OpenSpec.ofChange lawS7533AWholeWrong)

/-- 'report.LawS7533BWhole': WHATEVER THE INPUT: true; the input reads as it did. -/
def lawS7533BWholeSpec : ChangeSpec := { name := "lawS7533BWhole", fn := fun _ => fun
  | [d1, d2, d3, d4] => { results := [.lit (.bool true)], args := [d1, d2, d3, d4] }
  | _ => none }
def lawS7533BWholeRow : OpenClaim := { program := "ybulkeyzg", sum := "d09242f05fd48544146c9c091350a7149b67cc5808f7613339cfc86abfece83c", func := "example.com/waitgraph/waitgraph/internal/report.LawS7533BWhole", spec := "lawS7533BWhole", plainKeys := false, apart := false }
def LawS7533BWholeSaid : Prop := lawS7533BWholeRow.holds Yba.pinned (OpenSpec.ofChange lawS7533BWholeSpec)

/-- ITS FALSE NEIGHBOUR: 'it returns false'. Refute it at one input. -/
def lawS7533BWholeWrong : ChangeSpec := { name := "lawS7533BWhole", fn := fun _ => fun
  | [d1, d2, d3, d4] => { results := [.lit (.bool false)], args := [d1, d2, d3, d4] }
  | _ => none }
def LawS7533BWholeWrongFalsely : Prop := lawS7533BWholeRow.holds Yba.pinned (OpenSpec.ofChange lawS7533BWholeWrong)

/-- 'report.LawS7533CWhole': WHATEVER THE INPUT: true; the input reads as it did. -/
def lawS7533CWholeSpec : ChangeSpec := { name := "lawS7533CWhole", fn := fun _ => fun
  | [d1, d2, d3, d4, d5, d6, d7, d8] => { results := [.lit (.bool true)], args := [d1, d2, d3, d4, d5, d6, d7, d8] }
  | _ => none }
def lawS7533CWholeRow : OpenClaim := { program := "ybulkeyzg", sum := "d09242f05fd48544146c9c091350a7149b67cc5808f7613339cfc86abfece83c", func := "example.com/waitgraph/waitgraph/internal/report.LawS7533CWhole", spec := "lawS7533CWhole", plainKeys := false, apart := false }
def LawS7533CWholeSaid : Prop := lawS7533CWholeRow.holds Yba.pinned (OpenSpec.ofChange lawS7533CWholeSpec)

/-- ITS FALSE NEIGHBOUR: 'it returns false'. Refute it at one input. -/
def lawS7533CWholeWrong : ChangeSpec := { name := "lawS7533CWhole", fn := fun _ => fun
  | [d1, d2, d3, d4, d5, d6, d7, d8] => { results := [.lit (.bool false)], args := [d1, d2, d3, d4, d5, d6, d7, d8] }
  | _ => none }
def LawS7533CWholeWrongFalsely : Prop := lawS7533CWholeRow.holds Yba.pinned (OpenSpec.ofChange lawS7533CWholeWrong)

end Rows
end Go.Proofs.Ybulkeyzg

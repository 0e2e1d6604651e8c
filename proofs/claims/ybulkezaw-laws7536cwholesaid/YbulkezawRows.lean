/-
  No cell of these rows narrows 'for every input' (looked for: loops, veiled, ifaces, maps, wideKeys, modest, calm, conditions, laid).
  DERIVED. THE GIVEN ROWS OF THIS SEAT. 1 by the template 'for every input the law returns true; each argument reads behind the call as it read before'; 0 by the template 'total and deterministic' (their statements: YbulkezawTotals.lean).
  GIVEN WITH THE SEED: the statements are not yours to turn. If you find one false, say at which input.
  Laid BY PROGRAM, IN A SANDBOX (cutbox-rows.mjs): the forced cells as the released guide's own fill.sh prints them over the translation 2de453eeed078395… (all of the seat's roots in one cut). By AI agents, Wed Nov 11 2026. No macro, syntax, notation, axiom, sorry.
-/
import Derived.Test.YbulkezawChecked
import GoSem.Claim
import GoSem.ClaimJoined
import GoSem.ClaimMapViews
import Derived.JoinedTies
import Derived.KernelRfl
namespace Go.Proofs.Ybulkezaw
/- THE CELL 'sum', in the pinned program and in every row, IS THE sha256 OF THE DUMP (.gsa) THAT YbulkezawProg.lean LOADS. Nothing in Lean hashes anything: it is a label: what it is worth is what the hold of that sum in a sandbox is worth. -/
noncomputable def Yba.pinned : Pinned := { name := "ybulkezaw", sum := "2de453eeed078395598125cb3ead44ee0130c61c6651b5016b33798856d9479d", checked := Yba.checked }
namespace Rows
def none {H : Type} : Left H := { results := [], args := [] }

/-- 'failover.LawS7536CWhole': WHATEVER THE INPUT: true; the input reads as it did. -/
def lawS7536CWholeSpec : ChangeSpec := { name := "lawS7536CWhole", fn := fun _ => fun
  | [d1, d2] => { results := [.lit (.bool true)], args := [d1, d2] }
  | _ => none }
def lawS7536CWholeRow : OpenClaim := { program := "ybulkezaw", sum := "2de453eeed078395598125cb3ead44ee0130c61c6651b5016b33798856d9479d", func := "example.com/leaseweave/leaseweave/internal/failover.LawS7536CWhole", spec := "lawS7536CWhole", plainKeys := false, apart := false }
def LawS7536CWholeSaid : Prop := lawS7536CWholeRow.holds Yba.pinned (OpenSpec.ofChange lawS7536CWholeSpec)

/-- ITS FALSE NEIGHBOUR: 'it returns false'. Refute it at one input. -/
def lawS7536CWholeWrong : ChangeSpec := { name := "lawS7536CWhole", fn := fun _ => fun
  | [d1, d2] => { results := [.lit (.bool false)], args := [d1, d2] }
  | _ => none }
def LawS7536CWholeWrongFalsely : Prop := lawS7536CWholeRow.holds Yba.pinned (OpenSpec.ofChange lawS7536CWholeWrong)

end Rows
end Go.Proofs.Ybulkezaw

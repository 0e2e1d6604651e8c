/-
  No cell of these rows narrows 'for every input' (looked for: loops, veiled, ifaces, maps, wideKeys, modest, calm, conditions, laid).
  DERIVED. THE GIVEN ROWS OF THIS SEAT. 2 by the template 'for every input the law returns true; each argument reads behind the call as it read before'; 0 by the template 'total and deterministic' (their statements: YbulkexuoTotals.lean).
  GIVEN WITH THE SEED: the statements are not yours to turn. If you find one false, say at which input.
  Laid BY PROGRAM, IN A SANDBOX (cutbox-rows.mjs): the forced cells as the released guide's own fill.sh prints them over the translation ab4f7d41345870db… (all of the seat's roots in one cut). By AI agents, Wed Nov 11 2026. No macro, syntax, notation, axiom, sorry.
-/
import Derived.Test.YbulkexuoChecked
import GoSem.Claim
import GoSem.ClaimJoined
import GoSem.ClaimMapViews
import Derived.JoinedTies
import Derived.KernelRfl
namespace Go.Proofs.Ybulkexuo
/- THE CELL 'sum', in the pinned program and in every row, IS THE sha256 OF THE DUMP (.gsa) THAT YbulkexuoProg.lean LOADS. Nothing in Lean hashes anything: it is a label: what it is worth is what the hold of that sum in a sandbox is worth. -/
noncomputable def Yba.pinned : Pinned := { name := "ybulkexuo", sum := "ab4f7d41345870db429bc097318cdb59647c2e8fc98a563a8b8c8fab2a060b8e", checked := Yba.checked }
namespace Rows
def none {H : Type} : Left H := { results := [], args := [] }

/-- 'causeline.LawS7476BWhole': WHATEVER THE INPUT: true; the input reads as it did. -/
def lawS7476BWholeSpec : ChangeSpec := { name := "lawS7476BWhole", fn := fun _ => fun
  | [d1, d2, d3, d4, d5, d6, d7, d8, d9, d10] => { results := [.lit (.bool true)], args := [d1, d2, d3, d4, d5, d6, d7, d8, d9, d10] }
  | _ => none }
def lawS7476BWholeRow : OpenClaim := { program := "ybulkexuo", sum := "ab4f7d41345870db429bc097318cdb59647c2e8fc98a563a8b8c8fab2a060b8e", func := "example.com/causeline/causeline.LawS7476BWhole", spec := "lawS7476BWhole", unfollowed := true, recurses := true, apart := false }
def LawS7476BWholeSaid : Prop := lawS7476BWholeRow.holds Yba.pinned (OpenSpec.ofChange lawS7476BWholeSpec)

/-- ITS FALSE NEIGHBOUR: 'it returns false'. Refute it at one input. -/
def lawS7476BWholeWrong : ChangeSpec := { name := "lawS7476BWhole", fn := fun _ => fun
  | [d1, d2, d3, d4, d5, d6, d7, d8, d9, d10] => { results := [.lit (.bool false)], args := [d1, d2, d3, d4, d5, d6, d7, d8, d9, d10] }
  | _ => none }
def LawS7476BWholeWrongFalsely : Prop := lawS7476BWholeRow.holds Yba.pinned (OpenSpec.ofChange lawS7476BWholeWrong)

/-- 'causeline.LawS7476CWhole': WHATEVER THE INPUT: true; the input reads as it did. -/
def lawS7476CWholeSpec : ChangeSpec := { name := "lawS7476CWhole", fn := fun _ => fun
  | [d1, d2, d3] => { results := [.lit (.bool true)], args := [d1, d2, d3] }
  | _ => none }
def lawS7476CWholeRow : OpenClaim := { program := "ybulkexuo", sum := "ab4f7d41345870db429bc097318cdb59647c2e8fc98a563a8b8c8fab2a060b8e", func := "example.com/causeline/causeline.LawS7476CWhole", spec := "lawS7476CWhole", unfollowed := true, recurses := true, apart := false }
def LawS7476CWholeSaid : Prop := lawS7476CWholeRow.holds Yba.pinned (OpenSpec.ofChange lawS7476CWholeSpec)

/-- ITS FALSE NEIGHBOUR: 'it returns false'. Refute it at one input. -/
def lawS7476CWholeWrong : ChangeSpec := { name := "lawS7476CWhole", fn := fun _ => fun
  | [d1, d2, d3] => { results := [.lit (.bool false)], args := [d1, d2, d3] }
  | _ => none }
def LawS7476CWholeWrongFalsely : Prop := lawS7476CWholeRow.holds Yba.pinned (OpenSpec.ofChange lawS7476CWholeWrong)

end Rows
end Go.Proofs.Ybulkexuo

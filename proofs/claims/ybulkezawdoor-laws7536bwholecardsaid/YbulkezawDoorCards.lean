/-
  DERIVED. GIVEN WITH THE SEED: THE CARDS: each row of YbulkezawDoorRows.lean that lists a variable, with what it lists TIED to the program's text (the seventh form; the later family's looks); each row that meets fmt, with fmt's text TOLD by the authors' own Lean function (tested against real Go, not proved from fmt's source: count such statements apart). THE CARD IS WHAT COUNTS. Prove the row's statement (the work); the ties are given (YbulkezawDoorTie.lean); close each card by the builder's one call (the guide's Derived/Test/ToyasCard.lean, 'card_holds'). Laid BY PROGRAM, IN A SANDBOX (cutbox-door.mjs). By AI agents, Wed Nov 11 2026. No macro, syntax, notation, axiom, sorry.
-/
import Derived.Test.YbulkezawDoorRows
import GoSem.ClaimSeven
namespace Go.Proofs.YbulkezawDoor
namespace Rows

/-- THE TIED CARD OF 'dhcp4.LawS7536BWhole'. -/
def lawS7536BWholeCard : Claim7 := { stood := { row := lawS7536BWholeRow, standIns := [], harness := (true, "55fe759891fb823fa94d3b6f8c82554ee273abb0c55e9e1d805ef59cdf30d0d4"), looks := false }, kinds := [], alts := [], laidByText := true, laidKinds := [.called], laidTests := true, laidLooks := .later }
def LawS7536BWholeCardSaid : Prop := Claim7.holds Ybad.pinned (.plain (OpenSpec.ofChange lawS7536BWholeSpec)) lawS7536BWholeCard
end Rows
end Go.Proofs.YbulkezawDoor

/-
  DERIVED. GIVEN WITH THE SEED: THE CARDS: each row of YbulkcvviDoorRows.lean that lists a variable, with what it lists TIED to the program's text (the seventh form; the later family's looks); each row that meets fmt, with fmt's text TOLD by the authors' own Lean function (tested against real Go, not proved from fmt's source: count such statements apart). THE CARD IS WHAT COUNTS. Prove the row's statement (the work); the ties are given (YbulkcvviDoorTie.lean); close each card by the builder's one call (the guide's Derived/Test/ToyasCard.lean, 'card_holds'). Laid BY PROGRAM, IN A SANDBOX (cutbox-door.mjs). By AI agents, Wed Nov 11 2026. No macro, syntax, notation, axiom, sorry.
-/
import Derived.Test.YbulkcvviDoorRows
import GoSem.ClaimSeven
namespace Go.Proofs.YbulkcvviDoor
namespace Rows

/-- THE TIED CARD OF 'holdfast.LawS4870BOne'. -/
def lawS4870BOneCard : Claim7 := { stood := { row := lawS4870BOneRow, standIns := [], harness := (true, "727d50a73ef3d5d4caaf6fe5ca4bff411fc33a57337919e64108e1b1dc1d401a"), looks := false }, kinds := [], alts := [], laidByText := true, laidKinds := [.data, .data, .data], laidTests := true, laidLooks := .later }
def LawS4870BOneCardSaid : Prop := Claim7.holds Ybad.pinned (.plain (OpenSpec.ofChange lawS4870BOneSpec)) lawS4870BOneCard

/-- THE TIED CARD OF 'holdfast.LawS4870BOrder'. -/
def lawS4870BOrderCard : Claim7 := { stood := { row := lawS4870BOrderRow, standIns := [], harness := (true, "727d50a73ef3d5d4caaf6fe5ca4bff411fc33a57337919e64108e1b1dc1d401a"), looks := false }, kinds := [], alts := [], laidByText := true, laidKinds := [.data, .data, .data], laidTests := true, laidLooks := .later }
def LawS4870BOrderCardSaid : Prop := Claim7.holds Ybad.pinned (.plain (OpenSpec.ofChange lawS4870BOrderSpec)) lawS4870BOrderCard
end Rows
end Go.Proofs.YbulkcvviDoor

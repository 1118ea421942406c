/-
  DERIVED. GIVEN WITH THE SEED: THE CARDS: each row of YbulkcvteFmtRows.lean that lists a variable, with what it lists TIED to the program's text (the seventh form; the later family's looks); each row that meets fmt, with fmt's text TOLD by the authors' own Lean function (tested against real Go, not proved from fmt's source: count such statements apart). THE CARD IS WHAT COUNTS. Prove the row's statement (the work); the ties are given (YbulkcvteFmtTie.lean); close each card by the builder's one call (the guide's Derived/Test/ToyasCard.lean, 'card_holds'). Laid BY PROGRAM, IN A SANDBOX (cutbox-door.mjs). By AI agents, Wed Nov 11 2026. No macro, syntax, notation, axiom, sorry.
-/
import Derived.Test.YbulkcvteFmtRows
import GoSem.ClaimSeven
namespace Go.Proofs.YbulkcvteFmt
namespace Rows

/-- THE TOLD AND TIED CARD OF 'synod.LawS4866CRecorded'. -/
def lawS4866CRecordedCard : Claim7 := { stood := { row := lawS4866CRecordedRow, standIns := [], harness := (true, "c902307233dfb948083b86e6c404408e8ac1f37e93a51487257662c6838ceccf"), looks := false }, told := true, laidByText := true, laidKinds := [.data], laidTests := true, laidLooks := .later, goes := false }
def LawS4866CRecordedToldSaid : Prop := Claim7.holds Ybaf.pinned (.plain (OpenSpec.ofChange lawS4866CRecordedSpec)) lawS4866CRecordedCard
/-- ITS FALSE NEIGHBOUR. Refute it at one input. -/
def LawS4866CRecordedToldWrongFalsely : Prop := Claim7.holds Ybaf.pinned (.plain (OpenSpec.ofChange lawS4866CRecordedWrong)) lawS4866CRecordedCard
end Rows
end Go.Proofs.YbulkcvteFmt

/-
  NARROWER THAN 'FOR EVERY INPUT', by the rows' own cells (each row's printed sentence says how): LawS4866CRecorded: laid.
  DERIVED. THE GIVEN ROWS OF THIS SEAT. 1 by the template 'for every input the law returns true; each argument reads behind the call as it read before'; 0 by the template 'total and deterministic' (their statements: YbulkcvteFmtTotals.lean).
  GIVEN WITH THE SEED: the statements are not yours to turn. If you find one false, say at which input.
  Laid BY PROGRAM, IN A SANDBOX (cutbox-rows.mjs): the forced cells as the released guide's own fill.sh prints them over the translation 375f699054487cf6… (all of the seat's roots in one cut). By AI agents, Wed Nov 11 2026. No macro, syntax, notation, axiom, sorry.
-/
import Derived.Test.YbulkcvteFmtChecked
import GoSem.Claim
import GoSem.ClaimJoined
import GoSem.ClaimMapViews
import Derived.JoinedTies
import Derived.KernelRfl
namespace Go.Proofs.YbulkcvteFmt
/- THE CELL 'sum', in the pinned program and in every row, IS THE sha256 OF THE DUMP (.gsa) THAT YbulkcvteFmtProg.lean LOADS. Nothing in Lean hashes anything: it is a label: what it is worth is what the hold of that sum in a sandbox is worth. -/
noncomputable def Ybaf.pinned : Pinned := { name := "ybulkcvtefmt", sum := "375f699054487cf6fa2e313720e54d5c6fc51b60ec1adbebaf435f4f41cb46c1", checked := Ybaf.checked }
namespace Rows
def none {H : Type} : Left H := { results := [], args := [] }

/- WHAT THE LISTED PACKAGE-LEVEL VARIABLES READ AS WHEN THE CALL BEGINS. Each datum BY PROGRAM (the guide's laid-datum.mjs) off the statement by which the dump's own 'gosem.cut.vars' lays the variable. In a bare row this is a premise. The card (YbulkcvteFmtCards.lean) ties it to the program's text. -/
def laid_example_com_synod_synod_phases {H : Type} : DataW H := .agg [.agg [.lit (.string []), .lit (.string []), .lit (.bool false), .lit (.bool false)], .agg [.lit (.string [112, 114, 111, 112, 111, 115, 97, 108]), .lit (.string [115, 121, 110, 111, 100, 45, 112, 114, 101, 112, 97, 114, 101, 45, 118, 49]), .lit (.bool true), .lit (.bool true)], .agg [.lit (.string [114, 101, 115, 112, 111, 110, 115, 101]), .lit (.string [115, 121, 110, 111, 100, 45, 112, 114, 101, 112, 97, 114, 101, 45, 118, 49]), .lit (.bool false), .lit (.bool false)], .agg [.lit (.string [99, 111, 109, 109, 105, 116]), .lit (.string [115, 121, 110, 111, 100, 45, 99, 111, 109, 109, 105, 116, 45, 118, 49]), .lit (.bool false), .lit (.bool false)], .agg [.lit (.string [114, 101, 113, 117, 101, 115, 116]), .lit (.string [115, 121, 110, 111, 100, 45, 114, 101, 113, 117, 101, 115, 116, 45, 118, 49]), .lit (.bool false), .lit (.bool true)]]

/-- 'synod.LawS4866CRecorded': WHATEVER THE INPUT: true; the input reads as it did. -/
def lawS4866CRecordedSpec : ChangeSpec := { name := "lawS4866CRecorded", vars := ["example.com/synod/synod.phases"], fn := fun _ => fun
  | [d1, d2, d3, d4, d5, d6, d7, d8, d9, d10, d11, g1] => { results := [.lit (.bool true)], args := [d1, d2, d3, d4, d5, d6, d7, d8, d9, d10, d11], vars := [g1] }
  | _ => none }
def lawS4866CRecordedRow : OpenClaim := { program := "ybulkcvtefmt", sum := "375f699054487cf6fa2e313720e54d5c6fc51b60ec1adbebaf435f4f41cb46c1", func := "example.com/synod/synod.LawS4866CRecorded", spec := "lawS4866CRecorded", stops := ["fmt.errorf"], inPlace := ["fmt.errorf"], unfollowed := true, recurses := true, named := ["example.com/synod/synod.phases", "encoding/binary.BigEndian"], plainKeys := false, apart := false, laid := [("example.com/synod/synod.phases", laid_example_com_synod_synod_phases)] }
/-- NO THEOREM (fmt's text is open here; it may be false): for the released tool's asking of the row's closed facts alone. THE STATEMENT IS 'LawS4866CRecordedToldSaid' (YbulkcvteFmtCards.lean). -/
def LawS4866CRecordedFormAsk : Prop := lawS4866CRecordedRow.holds Ybaf.pinned (OpenSpec.ofChange lawS4866CRecordedSpec)

/-- ITS FALSE NEIGHBOUR: 'it returns false'. Refute it at one input. -/
def lawS4866CRecordedWrong : ChangeSpec := { name := "lawS4866CRecorded", vars := ["example.com/synod/synod.phases"], fn := fun _ => fun
  | [d1, d2, d3, d4, d5, d6, d7, d8, d9, d10, d11, g1] => { results := [.lit (.bool false)], args := [d1, d2, d3, d4, d5, d6, d7, d8, d9, d10, d11], vars := [g1] }
  | _ => none }
def LawS4866CRecordedWrongFormAsk : Prop := lawS4866CRecordedRow.holds Ybaf.pinned (OpenSpec.ofChange lawS4866CRecordedWrong)

end Rows
end Go.Proofs.YbulkcvteFmt

/-
  No cell of these rows narrows 'for every input' (looked for: loops, veiled, ifaces, maps, wideKeys, modest, calm, conditions, laid).
  DERIVED. THE GIVEN ROWS OF THIS SEAT. 1 by the template 'for every input the law returns true; each argument reads behind the call as it read before'; 0 by the template 'total and deterministic' (their statements: YbulkcvtsTotals.lean).
  GIVEN WITH THE SEED: the statements are not yours to turn. If you find one false, say at which input.
  Laid BY PROGRAM, IN A SANDBOX (cutbox-rows.mjs): the forced cells as the released guide's own fill.sh prints them over the translation bef88ab87427c9d3… (all of the seat's roots in one cut). By AI agents, Wed Nov 11 2026. No macro, syntax, notation, axiom, sorry.
-/
import Derived.Test.YbulkcvtsChecked
import GoSem.Claim
import GoSem.ClaimJoined
import GoSem.ClaimMapViews
import Derived.JoinedTies
import Derived.KernelRfl
namespace Go.Proofs.Ybulkcvts
/- THE CELL 'sum', in the pinned program and in every row, IS THE sha256 OF THE DUMP (.gsa) THAT YbulkcvtsProg.lean LOADS. Nothing in Lean hashes anything: it is a label: what it is worth is what the hold of that sum in a sandbox is worth. -/
noncomputable def Yba.pinned : Pinned := { name := "ybulkcvts", sum := "bef88ab87427c9d3c375158b270763e374aecbed4c05df58b9d4d7361601b8da", checked := Yba.checked }
namespace Rows
def none {H : Type} : Left H := { results := [], args := [] }

/-- 'islp.LawS4867CSettle': WHATEVER THE INPUT: true; the input reads as it did. -/
def lawS4867CSettleSpec : ChangeSpec := { name := "lawS4867CSettle", fn := fun _ => fun
  | [d1, d2, d3, d4, d5, d6, d7, d8, d9] => { results := [.lit (.bool true)], args := [d1, d2, d3, d4, d5, d6, d7, d8, d9] }
  | _ => none }
def lawS4867CSettleRow : OpenClaim := { program := "ybulkcvts", sum := "bef88ab87427c9d3c375158b270763e374aecbed4c05df58b9d4d7361601b8da", func := "example.com/trunkwire/trunkwire/islp.LawS4867CSettle", spec := "lawS4867CSettle", apart := false }
def LawS4867CSettleSaid : Prop := lawS4867CSettleRow.holds Yba.pinned (OpenSpec.ofChange lawS4867CSettleSpec)

/-- ITS FALSE NEIGHBOUR: 'it returns false'. Refute it at one input. -/
def lawS4867CSettleWrong : ChangeSpec := { name := "lawS4867CSettle", fn := fun _ => fun
  | [d1, d2, d3, d4, d5, d6, d7, d8, d9] => { results := [.lit (.bool false)], args := [d1, d2, d3, d4, d5, d6, d7, d8, d9] }
  | _ => none }
def LawS4867CSettleWrongFalsely : Prop := lawS4867CSettleRow.holds Yba.pinned (OpenSpec.ofChange lawS4867CSettleWrong)

end Rows
end Go.Proofs.Ybulkcvts

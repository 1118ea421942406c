/-
  No cell of these rows narrows 'for every input' (looked for: loops, veiled, ifaces, maps, wideKeys, modest, calm, conditions, laid).
  DERIVED. THE GIVEN ROWS OF THIS SEAT. 1 by the template 'for every input the law returns true; each argument reads behind the call as it read before'; 0 by the template 'total and deterministic' (their statements: YbulkcvviTotals.lean).
  GIVEN WITH THE SEED: the statements are not yours to turn. If you find one false, say at which input.
  Laid BY PROGRAM, IN A SANDBOX (cutbox-rows.mjs): the forced cells as the released guide's own fill.sh prints them over the translation ace86c1a7a7574c2… (all of the seat's roots in one cut). By AI agents, Wed Nov 11 2026. No macro, syntax, notation, axiom, sorry.
-/
import Derived.Test.YbulkcvviChecked
import GoSem.Claim
import GoSem.ClaimJoined
import GoSem.ClaimMapViews
import Derived.JoinedTies
import Derived.KernelRfl
namespace Go.Proofs.Ybulkcvvi
/- THE CELL 'sum', in the pinned program and in every row, IS THE sha256 OF THE DUMP (.gsa) THAT YbulkcvviProg.lean LOADS. Nothing in Lean hashes anything: it is a label: what it is worth is what the hold of that sum in a sandbox is worth. -/
noncomputable def Yba.pinned : Pinned := { name := "ybulkcvvi", sum := "ace86c1a7a7574c28b3bdd219398dafcf0fd6b20f03e512646c0149809003621", checked := Yba.checked }
namespace Rows
def none {H : Type} : Left H := { results := [], args := [] }

/-- 'holdfast.LawS4870CModel': WHATEVER THE INPUT: true; the input reads as it did. -/
def lawS4870CModelSpec : ChangeSpec := { name := "lawS4870CModel", fn := fun _ => fun
  | [d1, d2, d3] => { results := [.lit (.bool true)], args := [d1, d2, d3] }
  | _ => none }
def lawS4870CModelRow : OpenClaim := { program := "ybulkcvvi", sum := "ace86c1a7a7574c28b3bdd219398dafcf0fd6b20f03e512646c0149809003621", func := "example.com/holdfast/holdfast.LawS4870CModel", spec := "lawS4870CModel", apart := false }
def LawS4870CModelSaid : Prop := lawS4870CModelRow.holds Yba.pinned (OpenSpec.ofChange lawS4870CModelSpec)

/-- ITS FALSE NEIGHBOUR: 'it returns false'. Refute it at one input. -/
def lawS4870CModelWrong : ChangeSpec := { name := "lawS4870CModel", fn := fun _ => fun
  | [d1, d2, d3] => { results := [.lit (.bool false)], args := [d1, d2, d3] }
  | _ => none }
def LawS4870CModelWrongFalsely : Prop := lawS4870CModelRow.holds Yba.pinned (OpenSpec.ofChange lawS4870CModelWrong)

end Rows
end Go.Proofs.Ybulkcvvi

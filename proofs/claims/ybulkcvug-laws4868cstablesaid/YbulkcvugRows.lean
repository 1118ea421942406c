/-
  No cell of these rows narrows 'for every input' (looked for: loops, veiled, ifaces, maps, wideKeys, modest, calm, conditions, laid).
  DERIVED. THE GIVEN ROWS OF THIS SEAT. 2 by the template 'for every input the law returns true; each argument reads behind the call as it read before'; 0 by the template 'total and deterministic' (their statements: YbulkcvugTotals.lean).
  GIVEN WITH THE SEED: the statements are not yours to turn. If you find one false, say at which input.
  Laid BY PROGRAM, IN A SANDBOX (cutbox-rows.mjs): the forced cells as the released guide's own fill.sh prints them over the translation 6b819fe5ed42e5ee… (all of the seat's roots in one cut). By AI agents, Wed Nov 11 2026. No macro, syntax, notation, axiom, sorry.
-/
import Derived.Test.YbulkcvugChecked
import GoSem.Claim
import GoSem.ClaimJoined
import GoSem.ClaimMapViews
import Derived.JoinedTies
import Derived.KernelRfl
namespace Go.Proofs.Ybulkcvug
/- THE CELL 'sum', in the pinned program and in every row, IS THE sha256 OF THE DUMP (.gsa) THAT YbulkcvugProg.lean LOADS. Nothing in Lean hashes anything: it is a label: what it is worth is what the hold of that sum in a sandbox is worth. -/
noncomputable def Yba.pinned : Pinned := { name := "ybulkcvug", sum := "6b819fe5ed42e5eeb92d44e41c860686618f7d7bd4802da6b717588795c22de8", checked := Yba.checked }
namespace Rows
def none {H : Type} : Left H := { results := [], args := [] }

/-- 'sealed-envoy.LawS4868CExact': WHATEVER THE INPUT: true; the input reads as it did. -/
def lawS4868CExactSpec : ChangeSpec := { name := "lawS4868CExact", fn := fun _ => fun
  | [d] => { results := [.lit (.bool true)], args := [d] }
  | _ => none }
def lawS4868CExactRow : OpenClaim := { program := "ybulkcvug", sum := "6b819fe5ed42e5eeb92d44e41c860686618f7d7bd4802da6b717588795c22de8", func := "example.com/sealed-envoy/sealed-envoy.LawS4868CExact", spec := "lawS4868CExact", plainKeys := false, apart := false }
def LawS4868CExactSaid : Prop := lawS4868CExactRow.holds Yba.pinned (OpenSpec.ofChange lawS4868CExactSpec)

/-- ITS FALSE NEIGHBOUR: 'it returns false'. Refute it at one input. -/
def lawS4868CExactWrong : ChangeSpec := { name := "lawS4868CExact", fn := fun _ => fun
  | [d] => { results := [.lit (.bool false)], args := [d] }
  | _ => none }
def LawS4868CExactWrongFalsely : Prop := lawS4868CExactRow.holds Yba.pinned (OpenSpec.ofChange lawS4868CExactWrong)

/-- 'sealed-envoy.LawS4868CStable': WHATEVER THE INPUT: true; the input reads as it did. -/
def lawS4868CStableSpec : ChangeSpec := { name := "lawS4868CStable", fn := fun _ => fun
  | [d] => { results := [.lit (.bool true)], args := [d] }
  | _ => none }
def lawS4868CStableRow : OpenClaim := { program := "ybulkcvug", sum := "6b819fe5ed42e5eeb92d44e41c860686618f7d7bd4802da6b717588795c22de8", func := "example.com/sealed-envoy/sealed-envoy.LawS4868CStable", spec := "lawS4868CStable", plainKeys := false, apart := false }
def LawS4868CStableSaid : Prop := lawS4868CStableRow.holds Yba.pinned (OpenSpec.ofChange lawS4868CStableSpec)

/-- ITS FALSE NEIGHBOUR: 'it returns false'. Refute it at one input. -/
def lawS4868CStableWrong : ChangeSpec := { name := "lawS4868CStable", fn := fun _ => fun
  | [d] => { results := [.lit (.bool false)], args := [d] }
  | _ => none }
def LawS4868CStableWrongFalsely : Prop := lawS4868CStableRow.holds Yba.pinned (OpenSpec.ofChange lawS4868CStableWrong)

end Rows
end Go.Proofs.Ybulkcvug

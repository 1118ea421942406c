/- The law's body, statement by statement. -/
import Derived.Test.YbulkcvteFmtLists
namespace Go.Proofs.YbulkcvteFmt
open Go.RowKit
set_option linter.unusedVariables false

/-- What is left of a body behind its first n statements. -/
def spineFrom : Nat → Code → Code
  | 0, c => c
  | n + 1, .seq _ y => spineFrom n y
  | _ + 1, c => c
abbrev Post := Exit → Act → World → Prop
/-- The law's body from its statement n on. -/
def Rest (n : Nat) (Q : Post) (a : Act) (w : World) : Prop := (spineFrom n (Ybaf.f3.body.getD .skip)).wp Ybaf.prog Q a w
theorem Rest.step {n : Nat} {x y : Code} {Q : Post} {a : Act} {w : World} (h : spineFrom n (Ybaf.f3.body.getD .skip) = .seq x y) (h2 : spineFrom (n + 1) (Ybaf.f3.body.getD .skip) = y)
    (hx : ∀ K : Act → World → Prop, Hid (∀ a w, Rest (n + 1) Q a w → K a w) → x.wp Ybaf.prog (Exit.then K Q) a w) : Rest n Q a w := by
  unfold Rest
  rw [h]
  refine wp_seq_k fun K hK => hx K fun a w hr => hK a w ?_
  rw [← h2]
  exact hr
theorem law_start {w : World} {args : Array Value} {R : Ending → World → Prop} {a : Act} (ha : ({ tmps := args ++ Array.replicate (Ybaf.f3.ntmps - args.size) undef, defers := [] } : Act) = a) (h : Rest 0 (bodyPost Ybaf.prog Ybaf.f3 R) a w) : Calls Ybaf.prog 3 args w R := by
  refine calls_of_wp Ybaf.func3 (c := Ybaf.f3.body.getD .skip) rfl ?_
  rw [ha]
  exact h
/-- The law's own ending. -/
abbrev LawQ (w : World) : Post := bodyPost Ybaf.prog Ybaf.f3 (LawPost w)
end Go.Proofs.YbulkcvteFmt

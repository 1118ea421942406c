/- The database that a law builds: its 1088 cells, of which four are looked at. -/
import Derived.Test.YbulkcvviDoorBase
import Derived.Laws.Tables
namespace Go.Proofs.YbulkcvviDoor
open Go.RowKit

theorem dbC_ex (x : Int) (p : Option Addr) (n c : Nat) (p2 : Option Addr) (n2 c2 : Nat) : ∃ cells : Array Value, Ybad.prog.built 69 [(11, .int .i64 x), (15, .slice p n c), (14, .slice p2 n2 c2)] = some cells ∧
    cells.toList[1080]? = some (.int .i64 x) ∧ cells.toList[1083]? = some (.slice p2 n2 c2) ∧ cells.toList[1084]? = some (.slice p n c) ∧ cells.toList[1087]? = some (.bool false) := by
  have h : (Ybad.prog.built 69 [(11, .int .i64 x), (15, .slice p n c), (14, .slice p2 n2 c2)]).map (fun cells => (cells.toList[1080]?, cells.toList[1083]?, cells.toList[1084]?, cells.toList[1087]?)) = some (some (.int .i64 x), some (.slice p2 n2 c2), some (.slice p n c), some (.bool false)) := by kernel_rfl
  cases hc : Ybad.prog.built 69 [(11, .int .i64 x), (15, .slice p n c), (14, .slice p2 n2 c2)] with
  | none => rw [hc] at h; cases h
  | some cells =>
    rw [hc] at h
    simp only [Option.map_some, Option.some.injEq, Prod.mk.injEq] at h
    exact ⟨cells, rfl, h.1, h.2.1, h.2.2.1, h.2.2.2⟩
theorem dbW_ex (x : Int) : ∃ cells : Array Value, Ybad.prog.built 69 [(11, .int .i64 x)] = some cells ∧
    cells.toList[1080]? = some (.int .i64 x) ∧ cells.toList[1083]? = some (.slice none 0 0) ∧ cells.toList[1084]? = some (.slice none 0 0) ∧ cells.toList[1087]? = some (.bool false) := by
  have h : (Ybad.prog.built 69 [(11, .int .i64 x)]).map (fun cells => (cells.toList[1080]?, cells.toList[1083]?, cells.toList[1084]?, cells.toList[1087]?)) = some (some (.int .i64 x), some (.slice none 0 0), some (.slice none 0 0), some (.bool false)) := by kernel_rfl
  cases hc : Ybad.prog.built 69 [(11, .int .i64 x)] with
  | none => rw [hc] at h; cases h
  | some cells =>
    rw [hc] at h
    simp only [Option.map_some, Option.some.injEq, Prod.mk.injEq] at h
    exact ⟨cells, rfl, h.1, h.2.1, h.2.2.1, h.2.2.2⟩
theorem wpList_build_to {P : Program} {ops : Array Oper} {rest : List Oper} {o : Oper} {a : Act} {w : World} {Q : Exit → Act → World → Prop} (hg : o.guard = none) (t : TypeId) (parts : Array (Nat × Operand)) (ho : o.op = .build t parts) (ps : List (Nat × Value)) (cells : Array Value)
    (hp : (parts.map fun (i, x) => (i, a.eval x)).toList = ps) (h : P.built t ps = some cells) (hK : wpList P ops Q rest (a.put o.dst (.agg cells)) w) : wpList P ops Q (o :: rest) a w := by
  refine wpList_build hg t parts ho (by rw [hp, h]; rfl) ?_
  rw [hp, h]; exact hK
end Go.Proofs.YbulkcvviDoor

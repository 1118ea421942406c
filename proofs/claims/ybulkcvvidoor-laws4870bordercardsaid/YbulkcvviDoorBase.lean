/- Blocks of the call's own; make over them. -/
import Derived.Test.YbulkcvviDoorShelf
import Derived.WalkKit
import Derived.WalkSpells
import Derived.WalkLawsBesides
import Derived.Lib.ItoaLen
import Derived.Lib.OthersKept
namespace Go.Proofs.YbulkcvviDoor
open Go.RowKit

/-- Block B holds the cells cs, of type t, none frozen. -/
def Blk (w : World) (B : Nat) (t : TypeId) (cs : List Value) : Prop := w.heap[B]? = some (.cells cs.toArray t (0, 0))

theorem Blk.cell {w : World} {B t : Nat} {cs : List Value} (h : Blk w B t cs) (i : Nat) {v : Value} (hv : cs[i]? = some v) : w.cell? ⟨B, i, none⟩ = some v := by
  unfold Blk at h; simp [World.cell?, h, hv]
theorem Blk.free {w : World} {B t : Nat} {cs : List Value} (h : Blk w B t cs) (i : Nat) : w.frozen? ⟨B, i, none⟩ = false := by
  unfold Blk at h; simp [World.frozen?, h]
theorem Blk.lt {w : World} {B t : Nat} {cs : List Value} (h : Blk w B t cs) : B < w.heap.size := lt_of_block h
theorem Blk.set {w : World} {B t : Nat} {cs : List Value} (h : Blk w B t cs) (i : Nat) (u : Value) : Blk (w.setCell ⟨B, i, none⟩ u) B t (cs.set i u) := by
  unfold Blk at h ⊢
  simp [World.setCell, Array.getElem?_modify, h]
theorem Blk.drewN {w : World} {B t : Nat} {cs : List Value} (h : Blk w B t cs) (n : Nat) : Blk (w.drewN n) B t cs := h
theorem Blk.alloc {w : World} {B t : Nat} {cs : List Value} (h : Blk w B t cs) (o : Obj) : Blk (w.alloc o) B t cs := by
  unfold Blk at *; rw [Below.heap_alloc w o B (lt_of_block h)]; exact h
theorem Blk.new (w : World) (t : TypeId) (cs : Array Value) : Blk (w.alloc (.cells cs t)) w.heap.size t cs.toList := by
  unfold Blk; simpa using heap_alloc_new w (.cells cs t)
theorem Blk.grown {w w' : World} {B t : Nat} {cs : List Value} {row : Option Nat} (h : Blk w B t cs) (hg : w.grownBy w' row) (hne : row ≠ some B) : Blk w' B t cs := by
  unfold Blk at *; rw [hg.block B (lt_of_block h) (fun e => hne e.symm)]; exact h
theorem Blk.below {B0 B t : Nat} {w w' : World} {cs : List Value} (h : Blk w B t cs) (hb : Below B0 w w') (hB : B < B0) : Blk w' B t cs := by
  unfold Blk at *; rw [hb.block B hB]; exact h
theorem Blk.other {w : World} {B t : Nat} {cs : List Value} (h : Blk w B t cs) {a : Addr} (hne : B ≠ a.block) (u : Value) : Blk (w.setCell a u) B t cs := by
  unfold Blk at *; rw [Below.heap_setCell w a u B hne]; exact h
theorem size_setCell (w : World) (a : Addr) (u : Value) : (w.setCell a u).heap.size = w.heap.size := by simp [World.setCell]
theorem size_alloc (w : World) (o : Obj) : (w.alloc o).heap.size = w.heap.size + 1 := by simp

/-- 'make([]T, n)', n a variable: the row's cells, and no more. -/
theorem wpList_make_rows {P : Program} (w : World) {ops : Array Oper} {rest : List Oper} {o : Oper} {a : Act} {Q : Exit → Act → World → Prop}
    (hg : o.guard = none) (l c : Operand) (t : TypeId) (hop : o.op = Op.makeSlice t l c)
    (e : TypeId) (i : TypeInfo) (z : Value) (size : Nat) (h1 : P.underlying t = some (.slice e)) (h2 : P.info? e = some i) (h3 : i.zero = some z) (h4 : i.size = size)
    (kl kc : IntKind) (L C : Int) (n : Nat) (hl : a.eval l = .int kl L) (hc : a.eval c = .int kc C) (hL : L = (n : Int)) (hC : C = (n : Int)) (b2 : i.bytes * n ≤ 281474976710656) (b3 : n ≤ maxLen)
    (hK : ∀ w', Blk w' w.heap.size e (madeCells z.cells (n * size)).toList → w'.heap.size = w.heap.size + 1 → Below w.heap.size w w' → wpList P ops Q rest (a.put o.dst (.slice (some ⟨w.heap.size, 0, none⟩) n n)) w') :
    wpList P ops Q (o :: rest) a w := by
  refine wpList_plain hg fun K hK' => ?_
  have b3' : (n : Int) ≤ 9223372036854775807 := by unfold maxLen at b3; omega
  have b2' : (i.bytes : Int) * (n : Int) ≤ 281474976710656 := by have h := Int.ofNat_le.2 b2; rw [Int.natCast_mul] at h; exact h
  have hrun := run_make (P := P) w t e i z h1 h2 h3 kl kc (n : Int) (n : Int) (by omega) (by omega) b2' b3'
  subst hL
  subst hC
  unfold Oper.wp
  simp [execOp, hop, hl, hc, hrun, Result.andThen]
  refine hK' _ _ (hK _ ?_ (size_alloc _ _) ((Below.refl _ _).alloc (Nat.le_refl _) _))
  rw [h4]; exact Blk.new _ _ _

theorem own_shape {w : World} {base e n : Nat} {v : Value} {xs : List Value} (h : w.ownsRow base e 1 v n xs) : ∃ ad cap, v = .slice ad n cap := by
  obtain ⟨_, ⟨rfl, rfl⟩ | ⟨g, cap, cur, rfl, _⟩⟩ := h
  · exact ⟨_, _, rfl⟩
  · exact ⟨_, _, rfl⟩
theorem own_later {w w1 : World} {B0 e k : Nat} {v : Value} {bs : List Value} (h : w.ownsRow B0 e 1 v k bs) (hb : Below w.heap.size w w1) : w1.ownsRow B0 e 1 v k bs := by
  obtain ⟨hl, h | ⟨g, c, cur, he, hg, hh, hr⟩⟩ := h
  · exact ⟨hl, .inl h⟩
  · exact ⟨hl, .inr ⟨g, c, cur, he, hg, by rw [hb.block g (lt_of_block hh)]; exact hh, hr⟩⟩


theorem info5 : (Ybad.prog.info? 5).map (fun i => (i.zero, i.size, i.bytes)) = some (some (.int .u8 0), 1, 1) := by kernel_rfl
theorem Blk.kept {w w' : World} {B t e : Nat} {cs : List Value} (h : Blk w B t cs) (hk : Lib.OthersKept e none w w') (hte : t ≠ e) : Blk w' B t cs := by
  unfold Blk at *
  exact hk B _ h (by simp) (by intro c fz hc; simp at hc; exact absurd hc.2.1 hte)
end Go.Proofs.YbulkcvviDoor

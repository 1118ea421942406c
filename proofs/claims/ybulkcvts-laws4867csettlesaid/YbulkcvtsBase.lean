/- Blocks: what a block of the call's own holds, cell by cell; stores into it; the bits' arithmetic. -/
import Derived.Test.YbulkcvtsRows
import Derived.WalkKit
import Derived.WalkSpells
import Derived.WalkLawsBesides
import Derived.Laws.CopyOwn
import Derived.Laws.BitsAllLaws
namespace Go.Proofs.Ybulkcvts
open Go.RowKit

/-- Block B holds the cells cs, of type t, none frozen. -/
def Blk (w : World) (B : Nat) (t : TypeId) (cs : List Value) : Prop := w.heap[B]? = some (.cells cs.toArray t (0, 0))

theorem Blk.cell {w : World} {B t : Nat} {cs : List Value} (h : Blk w B t cs) (i : Nat) {v : Value} (hv : cs[i]? = some v) : w.cell? ⟨B, i, none⟩ = some v := by
  unfold Blk at h; simp [World.cell?, h, hv]
theorem Blk.free {w : World} {B t : Nat} {cs : List Value} (h : Blk w B t cs) (i : Nat) : w.frozen? ⟨B, i, none⟩ = false := by
  unfold Blk at h; simp [World.frozen?, h]
theorem Blk.lt {w : World} {B t : Nat} {cs : List Value} (h : Blk w B t cs) : B < w.heap.size := lt_of_block h
theorem Blk.set {w : World} {B t : Nat} {cs : List Value} (h : Blk w B t cs) (i : Nat) (u : Value) : Blk (w.setCell ⟨B, i, none⟩ u) B t (cs.set i u) := by
  unfold Blk at h ⊢
  simp [World.setCell, Array.getElem?_modify, h]
theorem Blk.drewN {w : World} {B t : Nat} {cs : List Value} (h : Blk w B t cs) (n : Nat) : Blk (w.drewN n) B t cs := h
theorem Blk.alloc {w : World} {B t : Nat} {cs : List Value} (h : Blk w B t cs) (o : Obj) : Blk (w.alloc o) B t cs := by
  unfold Blk at *; rw [Below.heap_alloc w o B (lt_of_block h)]; exact h
theorem Blk.grown {w w' : World} {B t : Nat} {cs : List Value} {row : Option Nat} (h : Blk w B t cs) (hg : w.grownBy w' row) (hne : row ≠ some B) : Blk w' B t cs := by
  unfold Blk at *; rw [hg.block B (lt_of_block h) (fun e => hne e.symm)]; exact h
theorem Blk.below {B0 B t : Nat} {w w' : World} {cs : List Value} (h : Blk w B t cs) (hb : Below B0 w w') (hB : B < B0) : Blk w' B t cs := by
  unfold Blk at *; rw [hb.block B hB]; exact h
theorem Blk.other {w : World} {B t : Nat} {cs : List Value} (h : Blk w B t cs) {a : Addr} (hne : B ≠ a.block) (u : Value) : Blk (w.setCell a u) B t cs := by
  unfold Blk at *; rw [Below.heap_setCell w a u B hne]; exact h

/-- A row of another element type is another block. -/
theorem own_ne {w : World} {base e t B n : Nat} {v : Value} {xs cs : List Value} (h : w.ownsRow base e 1 v n xs) (hB : Blk w B t cs) (het : e ≠ t) : v.ownBlock ≠ some B := by
  intro hv
  obtain ⟨_, ⟨rfl, _⟩ | ⟨g, cap, cur, rfl, _, hg, _⟩⟩ := h
  · simp [Value.ownBlock] at hv
  · simp [Value.ownBlock] at hv
    subst hv
    unfold Blk at hB
    rw [hB] at hg
    simp at hg
    exact het hg.2.symm

theorem info5 : (Yba.prog.info? 5).map (fun i => (i.zero, i.size, i.bytes)) = some (some (.int .u8 0), 1, 1) := by kernel_rfl

/-- The decoder's fifteen cells. -/
def dec (m : Nat) (ones : Int) (z h : Bool) (fv : Value) (a n : Nat) (lg : Bool) (dd : Int) : List Value :=
  [.nilIface, .int .i64 m, .slice none 0 0, .slice none 0 0, .int .u8 0, .int .u64 0, .nilIface, .int .i64 ones, .bool z, .bool h, fv, .int .u8 a, .int .u64 n, .bool lg, .int .i64 dd]

/-- The decoder lies at B, its frame owns the bytes bs; below B0 nothing has turned. -/
def Dst (B0 B : Nat) (w w' : World) (m : Nat) (ones : Int) (z h : Bool) (a n : Nat) (lg : Bool) (dd : Int) (k : Nat) (bs : List Value) : Prop :=
  ∃ ad cap, Blk w' B 31 (dec m ones z h (.slice ad k cap) a n lg dd) ∧ w'.ownsRow B0 5 1 (.slice ad k cap) k bs ∧ Below B0 w w'

theorem own_shape {w : World} {base e n : Nat} {v : Value} {xs : List Value} (h : w.ownsRow base e 1 v n xs) : ∃ ad cap, v = .slice ad n cap := by
  obtain ⟨_, ⟨rfl, rfl⟩ | ⟨g, cap, cur, rfl, _⟩⟩ := h
  · exact ⟨_, _, rfl⟩
  · exact ⟨_, _, rfl⟩
end Go.Proofs.Ybulkcvts

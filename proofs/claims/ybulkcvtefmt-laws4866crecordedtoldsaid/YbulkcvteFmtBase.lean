/- Slices that are read; blocks of the call's own. -/
import Derived.Test.YbulkcvteFmtShelf
import Derived.WalkKit
import Derived.WalkSpells
import Derived.WalkLawsBesides
import Derived.BigRegion
import Derived.BigQuiet
import Derived.Lib.OthersKept
namespace Go.Proofs.YbulkcvteFmt
open Go.RowKit
set_option linter.unusedVariables false

/-- Below its length n a slice's address holds the cells f 0, f 1, .. -/
def At (w : World) (a : Option Addr) (n : Nat) (f : Nat → Value) : Prop := ∀ i, i < n → ∃ b o, a = some ⟨b, o, none⟩ ∧ b < w.heap.size ∧ w.cell? ⟨b, o + i, none⟩ = some (f i)

theorem At.later {w w' : World} {a : Option Addr} {n : Nat} {f : Nat → Value} (h : At w a n f) (hb : Below w.heap.size w w') : At w' a n f := fun i hi => by
  obtain ⟨b, o, e, hlt, hc⟩ := h i hi
  exact ⟨b, o, e, Nat.lt_of_lt_of_le hlt hb.size, by rw [hb.cell hlt]; exact hc⟩
theorem At.kept {w w' : World} {a : Option Addr} {n G : Nat} {f : Nat → Value} (h : At w a n f) (hb : w.grownBy w' (some G)) (hne : ∀ b o, a = some ⟨b, o, none⟩ → b ≠ G) : At w' a n f := fun i hi => by
  obtain ⟨b, o, e, hlt, hc⟩ := h i hi
  exact ⟨b, o, e, Nat.lt_of_lt_of_le hlt hb.size, by rw [World.cell?_of_block (w := w) (hb.block b hlt (fun e2 => hne b o e (by simpa using e2)))]; exact hc⟩

/-- The cells of a list of integers. -/
def cellI (L : List Int) (i : Nat) : Value := .int .i64 (L.getD i 0)
/-- The value s is a slice that reads as the integers L. -/
def Ints (w : World) (s : Value) (L : List Int) : Prop := ∃ a c, s = .slice a L.length c ∧ L.length ≤ c ∧ c ≤ maxLen ∧ At w a L.length (cellI L)

theorem Ints.later {w w' : World} {s : Value} {L : List Int} (h : Ints w s L) (hb : Below w.heap.size w w') : Ints w' s L := by
  obtain ⟨a, c, e, h1, h2, h3⟩ := h
  exact ⟨a, c, e, h1, h2, h3.later hb⟩
theorem Ints.nil (w : World) : Ints w (.slice none 0 0) [] := ⟨none, 0, rfl, Nat.le_refl _, Nat.zero_le _, fun i hi => absurd hi (Nat.not_lt_zero _)⟩

/-- Two steps, each of which keeps all that lay when it began. -/
theorem below_trans {w w1 w2 : World} (h : Below w.heap.size w w1) (g : Below w1.heap.size w1 w2) : Below w.heap.size w w2 := h.trans (g.mono h.size)
theorem below_drewN {B : Nat} {w w' : World} (h : Below B w w') (n : Nat) : Below B w (w'.drewN n) := ⟨h.os, h.tape, h.output, h.size, h.block⟩
theorem below_alloc {w w' : World} (h : Below w.heap.size w w') (o : Obj) : Below w.heap.size w (w'.alloc o) := h.alloc h.size _

/-- Block B holds the cells cs, of type t, none frozen. -/
def Blk (w : World) (B : Nat) (t : TypeId) (cs : List Value) : Prop := w.heap[B]? = some (.cells cs.toArray t (0, 0))

theorem Blk.cell {w : World} {B t : Nat} {cs : List Value} (h : Blk w B t cs) (i : Nat) {v : Value} (hv : cs[i]? = some v) : w.cell? ⟨B, i, none⟩ = some v := by
  unfold Blk at h; simp [World.cell?, h, hv]
theorem Blk.free {w : World} {B t : Nat} {cs : List Value} (h : Blk w B t cs) (i : Nat) : w.frozen? ⟨B, i, none⟩ = false := by
  unfold Blk at h; simp [World.frozen?, h]
theorem Blk.lt {w : World} {B t : Nat} {cs : List Value} (h : Blk w B t cs) : B < w.heap.size := lt_of_block h
theorem Blk.set {w : World} {B t : Nat} {cs : List Value} (h : Blk w B t cs) (i : Nat) (u : Value) : Blk (w.setCell ⟨B, i, none⟩ u) B t (cs.set i u) := by
  unfold Blk at h ⊢
  simp [World.setCell, Array.getElem?_modify, h]
theorem Blk.drewN {w : World} {B t : Nat} {cs : List Value} (h : Blk w B t cs) (n : Nat) : Blk (w.drewN n) B t cs := h
theorem Blk.alloc {w : World} {B t : Nat} {cs : List Value} (h : Blk w B t cs) (o : Obj) : Blk (w.alloc o) B t cs := by
  unfold Blk at *; rw [Below.heap_alloc w o B (lt_of_block h)]; exact h
theorem Blk.new (w : World) (t : TypeId) (cs : Array Value) : Blk (w.alloc (.cells cs t)) w.heap.size t cs.toList := by
  unfold Blk; simpa using heap_alloc_new w (.cells cs t)
theorem Blk.grown {w w' : World} {B t : Nat} {cs : List Value} {row : Option Nat} (h : Blk w B t cs) (hg : w.grownBy w' row) (hne : row ≠ some B) : Blk w' B t cs := by
  unfold Blk at *; rw [hg.block B (lt_of_block h) (fun e => hne e.symm)]; exact h
theorem Blk.below {B0 B t : Nat} {w w' : World} {cs : List Value} (h : Blk w B t cs) (hb : Below B0 w w') (hB : B < B0) : Blk w' B t cs := by
  unfold Blk at *; rw [hb.block B hB]; exact h
theorem Blk.later {B t : Nat} {w w' : World} {cs : List Value} (h : Blk w B t cs) (hb : Below w.heap.size w w') : Blk w' B t cs := h.below hb h.lt
theorem Blk.other {w : World} {B t : Nat} {cs : List Value} (h : Blk w B t cs) {a : Addr} (hne : B ≠ a.block) (u : Value) : Blk (w.setCell a u) B t cs := by
  unfold Blk at *; rw [Below.heap_setCell w a u B hne]; exact h
theorem size_setCell (w : World) (a : Addr) (u : Value) : (w.setCell a u).heap.size = w.heap.size := by simp [World.setCell]
theorem size_alloc (w : World) (o : Obj) : (w.alloc o).heap.size = w.heap.size + 1 := by simp
end Go.Proofs.YbulkcvteFmt

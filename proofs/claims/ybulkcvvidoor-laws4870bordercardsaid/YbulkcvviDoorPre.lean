/- The law LawS4870BOne: its walk. -/
import Derived.Test.YbulkcvviDoorTasks
import Derived.Test.YbulkcvviDoorStart
namespace Go.Proofs.YbulkcvviDoor
open Go.RowKit
set_option linter.unusedVariables false

def txL (s : ByteArray) (o : Nat) : List Value :=
  [.string s, .bool false, .bool false, .int .u16 0, .int .u16 0, .int .u32 0, .int .i32 0, .int .i64 0, .pointer none, .pointer none, .pointer none, .pointer none, .int .i32 0, .pointer (some ⟨o, 0, none⟩), .pointer none, .int .i64 0, .int .i64 0, .int .i64 0, .int .i64 0]
def oldL : List Value := [.pointer none, .int .i64 0, .string ⟨#[]⟩, .int .i64 0, .int .i64 0, .int .i64 0, .int .i64 0, .int .i64 (-1), .bool false, .bool false, .slice none 0 0, .slice none 0 0]
def preW (s : ByteArray) (v val : Int) (cells : Array Value) (w2 : World) : World :=
  (((w2.alloc (.cells cells 69)).alloc (.cells (txL s (w2.heap.size + 1 + 1)).toArray 78)).alloc (.cells oldL.toArray 84)).alloc (.cells #[.int .i64 0, .string s, .int .i64 v, .int .i64 0, .int .i64 val] 81)
structure Pre (w w2 : World) (s : ByteArray) (v val : Int) (cells : Array Value) (B n k : Nat) (sv wk : Value) (xs tk : List Value) : Prop where
  db : Blk (preW s v val cells w2) w2.heap.size 69 cells.toList
  tx : Blk (preW s v val cells w2) (w2.heap.size + 1) 78 (txL s (w2.heap.size + 1 + 1))
  old : Blk (preW s v val cells w2) (w2.heap.size + 1 + 1) 84 oldL
  own : (preW s v val cells w2).ownsRow B 5 1 sv n xs
  wk : (preW s v val cells w2).ownsRow B 28 5 wk k tk
  below : Below B w (preW s v val cells w2)
theorem Pre.mk' {w w2 : World} {B n k : Nat} {sv wk : Value} {xs tk : List Value} (h1 : w2.ownsRow B 5 1 sv n xs) (h2 : w2.ownsRow B 28 5 wk k tk) (hb : Below B w w2) (s : ByteArray) (v val : Int) (cells : Array Value) (hz : B < w2.heap.size) : Pre w w2 s v val cells B n k sv wk xs tk := by
  have a1 := Blk.new (w2.alloc (.cells cells 69)) 78 (txL s (w2.heap.size + 1 + 1)).toArray
  have a2 := Blk.new ((w2.alloc (.cells cells 69)).alloc (.cells (txL s (w2.heap.size + 1 + 1)).toArray 78)) 84 oldL.toArray
  rw [size_alloc] at a1
  rw [size_alloc, size_alloc] at a2
  exact ⟨(((Blk.new w2 69 cells).alloc _).alloc _).alloc _, (a1.alloc _).alloc _, a2.alloc _, (((h1.alloc _).alloc _).alloc _).alloc _, (((h2.alloc _).alloc _).alloc _).alloc _,
    (((hb.alloc (by omega) _).alloc (by rw [size_alloc]; omega) _).alloc (by rw [size_alloc, size_alloc]; omega) _).alloc (by rw [size_alloc, size_alloc, size_alloc]; omega) _⟩
theorem own_tasks {w : World} {B n : Nat} {cur : List Value} (h : Blk w B 28 cur) (hl : cur.length = n * 5) (hn : n < 1000) : w.ownsRow B 28 5 (.slice (some ⟨B, 0, none⟩) n n) n cur :=
  ⟨hl, .inr ⟨B, n, cur.toArray, rfl, Nat.le_refl _, h, Nat.le_refl _, by unfold maxLen; omega, by simpa using hl, by simp; exact List.take_of_length_le (by omega)⟩⟩
theorem app_get {l m : List Value} {i : Nat} {u : Value} (h : l[i]? = some u) : (l ++ m)[i]? = some u := by
  rw [List.getElem?_append_left (List.getElem?_eq_some_iff.1 h).1]; exact h
theorem tsk_last {cur : List Value} {n Wt : Nat} (hl : cur.length = n * 5) (r : Nat) {u : Value} (h : (tskL true Wt)[r]? = some u) : (cur ++ tskL true Wt)[n * 5 + r]? = some u := by
  rw [List.getElem?_append_right (by omega), hl, Nat.add_sub_cancel_left]; exact h
end Go.Proofs.YbulkcvviDoor

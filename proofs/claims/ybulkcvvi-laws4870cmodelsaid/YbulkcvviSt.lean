/- The law's own memory, loop by loop. -/
import Derived.Test.YbulkcvviQueue
namespace Go.Proofs.Ybulkcvvi
open Go.RowKit

/-- The row of bools behind i rounds. -/
def ExB (w wr : World) (n i : Nat) (X : Nat → Bool) : Prop := ∃ cur, Blk wr (w.heap.size + 1) 4 cur ∧ cur.length = n ∧ ∀ j, j < n → cur[j]? = some (.bool (decide (j < i) && X j))
/-- The row of pointers and the transactions behind i rounds. -/
structure St0 (w wr : World) (n i : Nat) (X : Nat → Bool) : Prop where
  size : wr.heap.size = w.heap.size + 2 + i
  below : Below w.heap.size w wr
  ts : ∃ cur, Blk wr w.heap.size 29 cur ∧ cur.length = n ∧ (∀ j, j < i → cur[j]? = some (ptr (w.heap.size + 2) j)) ∧ ∀ j, i ≤ j → j < n → cur[j]? = some (.pointer none)
  tx : ∀ j, j < i → Blk wr (w.heap.size + 2 + j) 42 (txnC (X j) j)
def St1 (w wr : World) (n i : Nat) (X : Nat → Bool) : Prop := St0 w wr n i X ∧ ExB w wr n i X

theorem St0.txn {w wr : World} {n i : Nat} {X : Nat → Bool} (h : St0 w wr n i X) (hi : i < n) (cs : Array Value) (hcs : cs.toList = txnC (X i) i) (g : Nat) (hg : g = wr.heap.size) :
    St0 w ((wr.setCell ⟨w.heap.size, i, none⟩ (.pointer (some ⟨g, 0, none⟩))).alloc (.cells cs 42)) n (i + 1) X := by
  subst hg
  have hs := h.size
  obtain ⟨cur, hB, hl, hc, hc'⟩ := h.ts
  refine ⟨by rw [size_alloc, size_setCell]; omega, (h.below.setCell (by simp) _).alloc (by rw [size_setCell]; omega) _, ⟨cur.set i _, (hB.set i _).alloc _, by simp [hl], fun j hj => ?_, fun j hj hj2 => ?_⟩, fun j hj => ?_⟩
  · rw [List.getElem?_set]
    by_cases e : i = j
    · subst e; simp [hl, hi, ptr, hs]
    · simp [e]; exact hc j (by omega)
  · rw [List.getElem?_set, if_neg (by omega)]; exact hc' j (by omega) hj2
  · by_cases e : j = i
    · subst e
      have := Blk.new (wr.setCell ⟨w.heap.size, j, none⟩ (.pointer (some ⟨wr.heap.size, 0, none⟩))) 42 cs
      rw [hcs, size_setCell, hs] at this
      rw [hs]; exact this
    · exact ((h.tx j (by omega)).other (by simp; omega) _).alloc _

theorem ExB.txn {w wr : World} {n i : Nat} {X : Nat → Bool} (h : ExB w wr n i X) (o : Obj) (j : Nat) (u : Value) : ExB w ((wr.setCell ⟨w.heap.size, j, none⟩ u).alloc o) n i X := by
  obtain ⟨cur, hB, hl, hc⟩ := h
  exact ⟨cur, (hB.other (by simp) _).alloc _, hl, hc⟩

theorem St1.step_f {w wr : World} {n i : Nat} {X : Nat → Bool} (h : St1 w wr n i X) (hi : i < n) (hx : X i = false) (cs : Array Value) (hcs : cs.toList = txnC false i) (g : Nat) (hg : g = wr.heap.size) :
    St1 w ((wr.setCell ⟨w.heap.size, i, none⟩ (.pointer (some ⟨g, 0, none⟩))).alloc (.cells cs 42)) n (i + 1) X := by
  refine ⟨h.1.txn hi cs (by rw [hx]; exact hcs) g hg, ExB.txn ?_ _ _ _⟩
  obtain ⟨cur, hB, hl, hc⟩ := h.2
  refine ⟨cur, hB, hl, fun j hj => ?_⟩
  rw [hc j hj]
  by_cases e : j = i
  · subst e; simp [hx]
  · have : (j < i) ↔ (j < i + 1) := by omega
    simp [this]

theorem St1.step_t {w wr : World} {n i : Nat} {X : Nat → Bool} (h : St1 w wr n i X) (hi : i < n) (hx : X i = true) (cs : Array Value) (hcs : cs.toList = txnC true i) (g : Nat) (hg : g = wr.heap.size) :
    St1 w (((wr.setCell ⟨w.heap.size + 1, i, none⟩ (.bool true)).setCell ⟨w.heap.size, i, none⟩ (.pointer (some ⟨g, 0, none⟩))).alloc (.cells cs 42)) n (i + 1) X := by
  have h0 : St0 w (wr.setCell ⟨w.heap.size + 1, i, none⟩ (.bool true)) n i X := by
    obtain ⟨⟨hs, hb, ⟨cur, hB, hl, hc⟩, ht⟩, _⟩ := h
    exact ⟨by rw [size_setCell]; exact hs, hb.setCell (by simp) _, ⟨cur, hB.other (by simp) _, hl, hc⟩, fun j hj => (ht j hj).other (by simp; omega) _⟩
  refine ⟨h0.txn hi cs (by rw [hx]; exact hcs) g (by rw [hg, size_setCell]), ExB.txn ?_ _ _ _⟩
  obtain ⟨cur, hB, hl, hc⟩ := h.2
  refine ⟨cur.set i (.bool true), hB.set i _, by simp [hl], fun j hj => ?_⟩
  rw [List.getElem?_set]
  by_cases e : i = j
  · subst e; simp [hl, hj, hx]
  · have : (j < i) ↔ (j < i + 1) := by omega
    simp [e, hc j hj, this]

/-- The second loop's row of places. -/
structure St2 (w wr : World) (n p i : Nat) (X : Nat → Bool) (K : Nat → Nat) (S : Nat → Bool) : Prop where
  size : wr.heap.size = w.heap.size + 3 + n
  below : Below w.heap.size w wr
  ts : ∃ cur, Blk wr w.heap.size 29 cur ∧ cur.length = n ∧ ∀ j, j < n → cur[j]? = some (ptr (w.heap.size + 2) j)
  ex : ∃ cur, Blk wr (w.heap.size + 1) 4 cur ∧ cur.length = n ∧ ∀ j, j < n → cur[j]? = some (.bool (X j))
  tx : ∀ j, j < n → Blk wr (w.heap.size + 2 + j) 42 (txnC (X j) j)
  ps : ∃ cur, Blk wr (w.heap.size + 2 + n) 47 cur ∧ cur.length = p * 2 ∧ (∀ j, j < i → cur[j * 2]? = some (ptr (w.heap.size + 2) (K j)) ∧ cur[j * 2 + 1]? = some (.int .i64 (if S j then -((K j : Int) + 1) else (K j : Int) + 1))) ∧
    ∀ j, i ≤ j → j < p → cur[j * 2]? = some (.pointer none) ∧ cur[j * 2 + 1]? = some (.int .i64 0)

theorem made2 (x y : Value) (p j : Nat) (hj : j < p) : (madeCells #[x, y] (p * 2)).toList[j * 2]? = some x ∧ (madeCells #[x, y] (p * 2)).toList[j * 2 + 1]? = some y := by
  have h1 : j * 2 < p * 2 := by omega
  have h2 : j * 2 + 1 < p * 2 := by omega
  have h3 : (j * 2 + 1) % 2 = 1 := by omega
  simp [madeCells, h1, h2, h3]

theorem St1.next {w wr w' : World} {n p : Nat} {X : Nat → Bool} {K : Nat → Nat} {S : Nat → Bool} (h : St1 w wr n n X) (hB : Blk w' wr.heap.size 47 (madeCells #[.pointer none, .int .i64 0] (p * 2)).toList) (hs : w'.heap.size = wr.heap.size + 1) (hb : Below wr.heap.size wr w') :
    St2 w w' n p 0 X K S := by
  obtain ⟨⟨hs0, hb0, ⟨cur1, hB1, hl1, hc1, _⟩, ht⟩, ⟨cur2, hB2, hl2, hc2⟩⟩ := h
  have l1 := hB1.lt
  have l2 := hB2.lt
  refine ⟨by omega, hb0.trans (hb.mono (by omega)), ⟨cur1, hB1.below hb (by omega), hl1, hc1⟩, ⟨cur2, hB2.below hb (by omega), hl2, fun j hj => by rw [hc2 j hj]; simp [hj]⟩, fun j hj => (ht j hj).below hb (by omega), ⟨_, by rw [← hs0]; exact hB, length_made _ _, fun j hj => by omega, fun j _ hj => made2 _ _ p j hj⟩⟩

theorem St2.step {w wr : World} {n p i : Nat} {X : Nat → Bool} {K : Nat → Nat} {S : Nat → Bool} (h : St2 w wr n p i X K S) (hi : i < p) (x y : Value) (hx : x = ptr (w.heap.size + 2) (K i)) (hy : y = .int .i64 (if S i then -((K i : Int) + 1) else (K i : Int) + 1)) :
    St2 w ((wr.setCell ⟨w.heap.size + 2 + n, i * 2, none⟩ x).setCell ⟨w.heap.size + 2 + n, i * 2 + 1, none⟩ y) n p (i + 1) X K S := by
  obtain ⟨hs, hb, ⟨cur1, hB1, hl1, hc1⟩, ⟨cur2, hB2, hl2, hc2⟩, ht, ⟨cur, hB, hl, hc, hc'⟩⟩ := h
  refine ⟨by rw [size_setCell, size_setCell]; exact hs, (hb.setCell (by simp; omega) _).setCell (by simp; omega) _, ⟨cur1, (hB1.other (by simp; omega) _).other (by simp; omega) _, hl1, hc1⟩, ⟨cur2, (hB2.other (by simp; omega) _).other (by simp; omega) _, hl2, hc2⟩,
    fun j hj => ((ht j hj).other (by simp; omega) _).other (by simp; omega) _, ⟨(cur.set (i * 2) x).set (i * 2 + 1) y, (hB.set _ _).set _ _, by simp [hl], fun j hj => ?_, fun j hj hj2 => ?_⟩⟩
  rotate_left
  · obtain ⟨q1, q2⟩ := hc' j (by omega) hj2
    constructor
    · rw [List.getElem?_set, if_neg (by omega), List.getElem?_set, if_neg (by omega)]; exact q1
    · rw [List.getElem?_set, if_neg (by omega), List.getElem?_set, if_neg (by omega)]; exact q2
  by_cases e : j = i
  · subst e
    constructor
    · rw [List.getElem?_set, if_neg (by omega), List.getElem?_set, if_pos rfl]; simp [hl, hx]; omega
    · rw [List.getElem?_set, if_pos rfl]; simp [hl, hy]; omega
  · obtain ⟨q1, q2⟩ := hc j (by omega)
    constructor
    · rw [List.getElem?_set, if_neg (by omega), List.getElem?_set, if_neg (by omega)]; exact q1
    · rw [List.getElem?_set, if_neg (by omega), List.getElem?_set, if_neg (by omega)]; exact q2
end Go.Proofs.Ybulkcvvi

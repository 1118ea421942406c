/- The law's own memory behind its building. -/
import Derived.Test.YbulkcvviSt
import Derived.Lib.Builder
namespace Go.Proofs.Ybulkcvvi
open Go.RowKit

/-- All that the law has built. -/
structure St3 (w W : World) (n p : Nat) (X : Nat → Bool) (K : Nat → Nat) (S : Nat → Bool) : Prop where
  size : w.heap.size + 3 + n + 1 < W.heap.size
  below : Below w.heap.size w W
  ts : ∃ cur, Blk W w.heap.size 29 cur ∧ cur.length = n ∧ ∀ j, j < n → cur[j]? = some (ptr (w.heap.size + 2) j)
  ex : ∃ cur, Blk W (w.heap.size + 1) 4 cur ∧ cur.length = n ∧ ∀ j, j < n → cur[j]? = some (.bool (X j))
  tx : ∀ j, j < n → Blk W (w.heap.size + 2 + j) 42 (txnC (X j) j)
  ps : ∃ cur, Blk W (w.heap.size + 2 + n) 47 cur ∧ Blk W (w.heap.size + 3 + n) 47 cur ∧ ∀ j, j < p → cur[j * 2]? = some (ptr (w.heap.size + 2) (K j)) ∧ cur[j * 2 + 1]? = some (.int .i64 (if S j then -((K j : Int) + 1) else (K j : Int) + 1))
  lock : W.cell? ⟨w.heap.size + 3 + n + 1, 2, none⟩ = some (.slice (some ⟨w.heap.size + 2 + n, 0, none⟩) p p)

theorem St3.later {w W W' : World} {n p : Nat} {X : Nat → Bool} {K : Nat → Nat} {S : Nat → Bool} (h : St3 w W n p X K S) {B : Nat} (hb : Below B W W') (hBB : w.heap.size + 3 + n + 1 < B) : St3 w W' n p X K S := by
  obtain ⟨hs, hb0, ⟨cur1, hB1, hl1, hc1⟩, ⟨cur2, hB2, hl2, hc2⟩, ht, ⟨cur, hB, hB', hc⟩, hk⟩ := h
  have := hb.size
  exact ⟨by omega, hb0.trans (hb.mono (by omega)), ⟨cur1, hB1.below hb (by omega), hl1, hc1⟩, ⟨cur2, hB2.below hb (by omega), hl2, hc2⟩, fun j hj => (ht j hj).below hb (by omega), ⟨cur, hB.below hb (by omega), hB'.below hb (by omega), hc⟩,
    by rw [hb.cell (p := ⟨w.heap.size + 3 + n + 1, 2, none⟩) (show _ < _ from hBB)]; exact hk⟩

def plc (p : Nat) (K : Nat → Nat) (S : Nat → Bool) : List (Nat × Bool) := (List.range p).map fun j => (K j, S j)
theorem plc_get {p : Nat} {K : Nat → Nat} {S : Nat → Bool} {j : Nat} (hj : j < p) : (plc p K S)[j]? = some (K j, S j) := by simp [plc, hj]
theorem plc_length (p : Nat) (K : Nat → Nat) (S : Nat → Bool) : (plc p K S).length = p := by simp [plc]

theorem St3.qf {w W : World} {n p : Nat} {X : Nat → Bool} {K : Nat → Nat} {S : Nat → Bool} (h : St3 w W n p X K S) (hK : ∀ j, j < p → K j < n) : QF W (w.heap.size + 2) (w.heap.size + 3 + n + 1) (w.heap.size + 2 + n) p X (plc p K S) := by
  obtain ⟨hs, hb0, _, _, ht, ⟨cur, hB, _, hc⟩, hk⟩ := h
  refine ⟨hk, hs, by omega, plc_length _ _ _, fun j k s hj => ?_⟩
  have hjp : j < p := by
    rcases Nat.lt_or_ge j p with h | h
    · exact h
    · rw [List.getElem?_eq_none (by rw [plc_length]; exact h)] at hj; cases hj
  rw [plc_get hjp] at hj
  simp at hj
  obtain ⟨rfl, rfl⟩ := hj
  have hx := ht (K j) (hK j hjp)
  exact ⟨hB.cell _ (hc j hjp).1, hB.cell _ (hc j hjp).2, by have := hK j hjp; omega, hx.cell 16 rfl, hx.cell 17 rfl⟩

/-- From the second loop's end: 'before' made and filled, the lock laid. -/
theorem St2.done {w wr w5 w6 : World} {n p : Nat} {X : Nat → Bool} {K : Nat → Nat} {S : Nat → Bool} (h : St2 w wr n p p X K S) (cur : List Value) (hB : Blk wr (w.heap.size + 2 + n) 47 cur)
    (hs5 : w5.heap.size = wr.heap.size + 1) (hb5 : Below wr.heap.size wr w5) (hB6 : Blk w6 wr.heap.size 47 cur) (hs6 : w6.heap.size = w5.heap.size) (hb6 : Below wr.heap.size w5 w6) (cs : Array Value) (hcs : cs[2]? = some (.slice (some ⟨w.heap.size + 2 + n, 0, none⟩) p p)) :
    St3 w (w6.alloc (.cells cs 58)) n p X K S := by
  obtain ⟨hs, hb0, ⟨cur1, hB1, hl1, hc1⟩, ⟨cur2, hB2, hl2, hc2⟩, ht, ⟨cur', hB', hl, hc, _⟩⟩ := h
  have hbr : Below wr.heap.size wr w6 := hb5.trans hb6
  have ecur : cur' = cur := by
    unfold Blk at hB hB'; rw [hB] at hB'; simp at hB'; exact hB'.symm
  subst ecur
  refine ⟨by rw [size_alloc]; omega, (hb0.trans (hbr.mono (by omega))).alloc (by omega) _, ⟨cur1, (hB1.below hbr (by omega)).alloc _, hl1, hc1⟩, ⟨cur2, (hB2.below hbr (by omega)).alloc _, hl2, hc2⟩, fun j hj => ((ht j hj).below hbr (by omega)).alloc _,
    ⟨cur', (hB'.below hbr (by omega)).alloc _, ?_, hc⟩, ?_⟩
  · have := hB6.alloc (.cells cs 58); rw [hs] at this; exact this
  · have h1 := (Blk.new w6 58 cs).cell 2 (v := .slice (some ⟨w.heap.size + 2 + n, 0, none⟩) p p) (by simpa using hcs)
    rw [show w6.heap.size = w.heap.size + 3 + n + 1 by omega] at h1
    exact h1

theorem places_one {cur : List Value} {p T : Nat} {K : Nat → Nat} {S : Nat → Bool} (hl : cur.length = p * 2) (h : ∀ j, j < p → cur[j * 2]? = some (ptr T (K j)) ∧ cur[j * 2 + 1]? = some (.int .i64 (if S j then -((K j : Int) + 1) else (K j : Int) + 1))) :
    ∀ v ∈ cur, v.oneCell' = true := by
  intro v hv
  obtain ⟨i, hi⟩ := List.getElem?_of_mem hv
  have hip : i < p * 2 := by rw [← hl]; exact (List.getElem?_eq_some_iff.1 hi).1
  obtain ⟨h1, h2⟩ := h (i / 2) (by omega)
  rcases Nat.mod_two_eq_zero_or_one i with e | e
  · rw [show i / 2 * 2 = i by omega, hi] at h1; simp at h1; subst h1; rfl
  · rw [show i / 2 * 2 + 1 = i by omega, hi] at h2; simp at h2; subst h2; rfl

theorem own_some {w : World} {B0 k cap : Nat} {ad : Option Addr} {bs : List Value} (h : w.ownsRow B0 29 1 (.slice ad k cap) k bs) (h0 : 0 < k) : ∃ g, ad = some ⟨g, 0, none⟩ := by
  obtain ⟨_, ⟨he, hz⟩ | ⟨g, c, cur, he, _⟩⟩ := h
  · omega
  · simp at he; exact ⟨g, he.1⟩
theorem own_cell {w : World} {B0 g n cap T : Nat} {L : List Nat} (h : w.ownsRow B0 29 1 (.slice (some ⟨g, 0, none⟩) n cap) n (L.map (ptr T))) (i : Nat) (hi : i < n) : w.cell? ⟨g, i, none⟩ = some (.pointer (some ⟨T + L.getD i 0, 0, none⟩)) := by
  have hl : L.length = n := by simpa using h.1
  rw [h.cellAt i (by omega)]
  simp [List.getElem?_eq_getElem (show i < L.length by omega), List.getD, ptr]
theorem info42 : ∃ j, Yba.prog.info? 42 = some j := ⟨_, rfl⟩
theorem neq_ptr (a : Addr) (W : World) : (binOp .neq 29 (.pointer (some a)) (.pointer (some a))).run Yba.prog W = .ok (.bool false) W := by
  obtain ⟨j, hj⟩ := info42
  exact Lib.run_neq_ptr_same W a Yba.underlying29 hj
theorem eqIn_ptr (d : Nat) (a : Addr) (W : World) : (Op.equalIn (d + 1) 29 (.pointer (some a)) (.pointer (some a))).run Yba.prog W = .ok true W := by
  obtain ⟨j, hj⟩ := info42
  simp [Op.equalIn, run_underlying Yba.underlying29, sizeOf, typeInfo, hj, run_sameAddr_same]
theorem eqIn_place (a : Addr) (t : Int) (W : World) : (Op.equalIn 10000 47 (.agg #[.pointer (some a), .int .i64 t]) (.agg #[.pointer (some a), .int .i64 t])).run Yba.prog W = .ok true W := by
  rw [run_equalIn_struct (P := Yba.prog) (w := W) 9999 47 _ _ Yba.underlying47 Yba.stoodInHeld47]
  simp [go_sem, eqIn_ptr]
theorem neq_place (a : Addr) (t : Int) (W : World) : (binOp .neq 47 (.agg #[.pointer (some a), .int .i64 t]) (.agg #[.pointer (some a), .int .i64 t])).run Yba.prog W = .ok (.bool false) W := by
  have h : ∀ d : Nat, (Op.equalIn (d + 2) 47 (.agg #[.pointer (some a), .int .i64 t]) (.agg #[.pointer (some a), .int .i64 t])).run Yba.prog W = .ok true W := fun d => by
    rw [run_equalIn_struct (P := Yba.prog) (w := W) (d + 1) 47 _ _ Yba.underlying47 Yba.stoodInHeld47]
    simp [go_sem, eqIn_ptr]
  simp only [binOp]
  simp [Op.equal, Op.maxDepth, h 9998]
end Go.Proofs.Ybulkcvvi

/- The decoder as the law builds it. -/
import Derived.Test.YbulkcvtsPre
namespace Go.Proofs.Ybulkcvts
open Go.RowKit

theorem made_block {w : World} {B g k : Nat} {xs : List Value} (h : w.ownsRow B 5 1 (.slice (some ⟨g, 0, none⟩) k k) k xs) : w.heap[g]? = some (.cells xs.toArray 5 (0, 0)) := by
  obtain ⟨hl, ⟨he, _⟩ | ⟨g', c, cur, he, _, hh, _, _, hs, ht⟩⟩ := h
  · simp at he
  · simp at he
    obtain ⟨rfl, rfl⟩ := he
    rw [hh]
    have : cur.toList = xs := by rw [← ht]; exact (List.take_of_length_le (by simp [hs])).symm
    rw [← this]

/-- The decoder as the law builds it, and its frame. -/
theorem built {w w2 : World} {k m n a : Nat} {o : Int} {z h lg : Bool} {dd : Int} {cur : List Value} {xs : List Int} (hg : Hid (w2.heap[w.heap.size]? = some (.cells (splice cur 0 (xs.map (Value.int .u8))).toArray 5 (0, 0)))) (hb : Below w.heap.size w w2)
    (hcur : cur.length = k) (hxs : xs.length = k) (hk : k ≤ 1024) (cs : Array Value) (hcs : cs.toList = dec m o z h (.slice (some ⟨w.heap.size, 0, none⟩) k k) a n lg dd) :
    Blk (w2.alloc (.cells cs 31)) w2.heap.size 31 (dec m o z h (.slice (some ⟨w.heap.size, 0, none⟩) k k) a n lg dd) ∧
    (w2.alloc (.cells cs 31)).ownsRow w.heap.size 5 1 (.slice (some ⟨w.heap.size, 0, none⟩) k k) k (xs.map (Value.int .u8)) ∧ Below w.heap.size w (w2.alloc (.cells cs 31)) ∧ w.heap.size ≤ w2.heap.size := by
  have hsp : splice cur 0 (xs.map (Value.int .u8)) = xs.map (Value.int .u8) := by
    have : cur.drop k = [] := List.drop_eq_nil_of_le (by omega)
    simp [splice, hxs, this]
  have hh := hg.out
  rw [hsp] at hh
  refine ⟨?_, ?_, hb.alloc hb.size _, hb.size⟩
  · unfold Blk
    rw [← hcs]
    simpa using heap_alloc_new w2 (.cells cs 31)
  · refine World.ownsRow.alloc ⟨by simp [hxs], .inr ⟨w.heap.size, k, _, rfl, Nat.le_refl _, hh, Nat.le_refl _, by unfold maxLen; omega, by simp [hxs], ?_⟩⟩ _
    exact List.take_of_length_le (by simp [hxs])
end Go.Proofs.Ybulkcvts

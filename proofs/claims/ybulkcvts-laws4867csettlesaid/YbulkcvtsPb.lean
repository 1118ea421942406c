/- The law's own rows of bits and octets, while they are built. -/
import Derived.Test.YbulkcvtsBits
namespace Go.Proofs.Ybulkcvts
open Go.RowKit

def bv (L : List Nat) : List Value := L.map fun b : Nat => Value.int .u8 (b : Int)
theorem bv_append (L M : List Nat) : bv (L ++ M) = bv L ++ bv M := by simp [bv]
theorem bv_length (L : List Nat) : (bv L).length = L.length := by simp [bv]

/-- 'pb': j bits L in a row of sixteen, at the first block behind w3's. -/
def Pb (w3 wr : World) (j : Nat) (L : List Nat) : Prop :=
  wr.ownsRow w3.heap.size 5 1 (.slice (some ⟨w3.heap.size, 0, none⟩) j 16) j (bv L) ∧ Below w3.heap.size w3 wr

theorem Pb.own {w3 wr : World} {j : Nat} {L : List Nat} (h : Pb w3 wr j L) : wr.ownsRow w3.heap.size 5 1 (.slice (some ⟨w3.heap.size, 0, none⟩) j 16) j (bv L) := h.1
theorem Pb.size {w3 wr : World} {j : Nat} {L : List Nat} (h : Pb w3 wr j L) : w3.heap.size < wr.heap.size := (h.1.lt w3.heap.size rfl).2
theorem Pb.step {w3 wr w1 : World} {j : Nat} {L : List Nat} {b : Nat} {v : Value} {cs : Array Value} (h : Pb w3 wr j L) (hv : v = .int .u8 (b : Int))
    (ho : w1.ownsRow w3.heap.size 5 1 (.slice (some ⟨w3.heap.size, 0, none⟩) (j + 1) 16) (j + 1) (bv L ++ [v])) (hg : (wr.alloc (.cells cs 5)).grownBy w1 (some w3.heap.size)) : Pb w3 w1 (j + 1) (L ++ [b]) := by
  have hs := h.size
  refine ⟨?_, ((h.2.alloc (by omega) _)).grown hg (by simp; omega) (fun k hk => by simp at hk; omega)⟩
  rw [bv_append, show bv [b] = [v] by rw [hv]; rfl]; exact ho
theorem Pb.cell {w3 wr : World} {j : Nat} {L : List Nat} (h : Pb w3 wr j L) (i : Nat) (hi : i < j) : wr.cell? ⟨w3.heap.size, i, none⟩ = some (.int .u8 ((L.getD i 0 : Nat) : Int)) := by
  have hl : L.length = j := by have := h.1.1; simpa [bv_length] using this
  rw [h.1.cellAt i (by omega)]
  simp [bv, List.getElem?_eq_getElem (show i < L.length by omega), List.getD]
theorem Pb.later {w3 wr w' : World} {j : Nat} {L : List Nat} (h : Pb w3 wr j L) (hb : Below wr.heap.size wr w') : Pb w3 w' j L :=
  ⟨own_later h.1 hb, h.2.trans (hb.mono (Nat.le_of_lt h.size))⟩
theorem Pb.len {w3 wr : World} {j : Nat} {L : List Nat} (h : Pb w3 wr j L) : L.length = j := by have := h.1.1; simpa [bv_length] using this

/-- 'ef' behind its copy: the octets, and room for two. -/
theorem ef_own {w w8 : World} {k : Nat} {cur : List Value} {xs : List Int} (hg : Hid (w8.heap[w.heap.size]? = some (.cells (splice cur 0 (xs.map (Value.int .u8))).toArray 5 (0, 0)))) (hcur : cur.length = k + 2) (hxs : xs.length = k) (hk : k ≤ 1024) :
    w8.ownsRow w.heap.size 5 1 (.slice (some ⟨w.heap.size, 0, none⟩) k (k + 2)) k (xs.map (Value.int .u8)) := by
  have hh := hg.out
  refine ⟨by simp [hxs], .inr ⟨w.heap.size, k + 2, _, rfl, Nat.le_refl _, hh, by omega, by unfold maxLen; omega, ?_, ?_⟩⟩
  · simp [length_splice _ _ _ (show 0 + (xs.map (Value.int .u8)).length ≤ cur.length by simp; omega), hcur]
  · simp [splice, hxs]

theorem drop_getD (L : List Nat) (j : Nat) : (L.drop 8).getD j 0 = L.getD (8 + j) 0 := by simp [List.getD, List.getElem?_drop]
theorem drop_bit {L : List Nat} (h : ∀ b ∈ L, b < 2) : ∀ b ∈ L.drop 8, b < 2 := fun b hb => h b (List.mem_of_mem_drop hb)
theorem z_no (n : Nat) : n + zN false = n := rfl
theorem ret_o (o : Nat) : ((o : Int) == 5) = !((o : Int) != 5) := by simp [bne]

/-- The decoder's state, in the model's words. -/
theorem fin_small {a n z o K m A' N' KK : Nat} {L' a6 : Bool} {BS X : List Value} (ha : a < 2 ^ n) (hT : n + z + o < 8)
    (h : A' = kA (a + (2 ^ o - 1) * 2 ^ (n + z)) (n + z + o) ∧ N' = kN (n + z + o) ∧ L' = kL (n + z + o) K m a6 ∧ KK = kK (n + z + o) K m ∧ BS = kB (a + (2 ^ o - 1) * 2 ^ (n + z)) (n + z + o) K m X) :
    A' = val ((pbL a n z o).take (n + z + o)) ∧ N' = n + z + o ∧ L' = a6 ∧ KK = K ∧ BS = X := by
  obtain ⟨rfl, rfl, rfl, rfl, rfl⟩ := h
  rw [List.take_of_length_le (by rw [pbL_length]; omega), val_pbL a n z o ha]
  simp only [kA, kN, kL, kK, kB, if_pos hT, and_self]
theorem fin_push {a n z o K m A' N' KK : Nat} {L' a6 : Bool} {BS X : List Value} (ha : a < 2 ^ n) (hT : ¬ n + z + o < 8) (hK : K < m)
    (h : A' = kA (a + (2 ^ o - 1) * 2 ^ (n + z)) (n + z + o) ∧ N' = kN (n + z + o) ∧ L' = kL (n + z + o) K m a6 ∧ KK = kK (n + z + o) K m ∧ BS = kB (a + (2 ^ o - 1) * 2 ^ (n + z)) (n + z + o) K m X) :
    A' = val (((pbL a n z o).drop 8).take (n + z + o - 8)) ∧ N' = n + z + o - 8 ∧ L' = a6 ∧ KK = K + 1 ∧ BS = X ++ [.int .u8 ((val ((pbL a n z o).take 8) : Nat) : Int)] := by
  obtain ⟨rfl, rfl, rfl, rfl, rfl⟩ := h
  obtain ⟨c1, c2⟩ := val_cut (pbL a n z o) (pbL_bit a n z o) (by rw [pbL_length]; omega)
  rw [List.take_of_length_le (by rw [List.length_drop, pbL_length]; omega), c1, c2, val_pbL a n z o ha]
  simp only [kA, kN, kL, kK, kB, if_neg hT, if_pos hK, and_self]
theorem fin_full {a n z o K m A' N' KK : Nat} {L' a6 : Bool} {BS X : List Value} (ha : a < 2 ^ n) (hT : ¬ n + z + o < 8) (hK : ¬ K < m)
    (h : A' = kA (a + (2 ^ o - 1) * 2 ^ (n + z)) (n + z + o) ∧ N' = kN (n + z + o) ∧ L' = kL (n + z + o) K m a6 ∧ KK = kK (n + z + o) K m ∧ BS = kB (a + (2 ^ o - 1) * 2 ^ (n + z)) (n + z + o) K m X) :
    A' = val (((pbL a n z o).drop 8).take (n + z + o - 8)) ∧ N' = n + z + o - 8 ∧ L' = true ∧ KK = K ∧ BS = X := by
  obtain ⟨rfl, rfl, rfl, rfl, rfl⟩ := h
  obtain ⟨c1, c2⟩ := val_cut (pbL a n z o) (pbL_bit a n z o) (by rw [pbL_length]; omega)
  rw [List.take_of_length_le (by rw [List.length_drop, pbL_length]; omega), c2, val_pbL a n z o ha]
  simp only [kA, kN, kL, kK, kB, if_neg hT, if_neg hK, and_self]
theorem fin_small0 {a n o K m A' N' KK : Nat} {L' a6 : Bool} {BS X : List Value} (ha : a < 2 ^ n) (hT : n + o < 8)
    (h : A' = kA (a + (2 ^ o - 1) * 2 ^ n) (n + o) ∧ N' = kN (n + o) ∧ L' = kL (n + o) K m a6 ∧ KK = kK (n + o) K m ∧ BS = kB (a + (2 ^ o - 1) * 2 ^ n) (n + o) K m X) :
    A' = val ((pbL a n 0 o).take (n + o)) ∧ N' = n + o ∧ L' = a6 ∧ KK = K ∧ BS = X := fin_small (z := 0) ha hT h
theorem fin_push0 {a n o K m A' N' KK : Nat} {L' a6 : Bool} {BS X : List Value} (ha : a < 2 ^ n) (hT : ¬ n + o < 8) (hK : K < m)
    (h : A' = kA (a + (2 ^ o - 1) * 2 ^ n) (n + o) ∧ N' = kN (n + o) ∧ L' = kL (n + o) K m a6 ∧ KK = kK (n + o) K m ∧ BS = kB (a + (2 ^ o - 1) * 2 ^ n) (n + o) K m X) :
    A' = val (((pbL a n 0 o).drop 8).take (n + o - 8)) ∧ N' = n + o - 8 ∧ L' = a6 ∧ KK = K + 1 ∧ BS = X ++ [.int .u8 ((val ((pbL a n 0 o).take 8) : Nat) : Int)] := fin_push (z := 0) ha hT hK h
theorem fin_full0 {a n o K m A' N' KK : Nat} {L' a6 : Bool} {BS X : List Value} (ha : a < 2 ^ n) (hT : ¬ n + o < 8) (hK : ¬ K < m)
    (h : A' = kA (a + (2 ^ o - 1) * 2 ^ n) (n + o) ∧ N' = kN (n + o) ∧ L' = kL (n + o) K m a6 ∧ KK = kK (n + o) K m ∧ BS = kB (a + (2 ^ o - 1) * 2 ^ n) (n + o) K m X) :
    A' = val (((pbL a n 0 o).drop 8).take (n + o - 8)) ∧ N' = n + o - 8 ∧ L' = true ∧ KK = K ∧ BS = X := fin_full (z := 0) ha hT hK h
end Go.Proofs.Ybulkcvts

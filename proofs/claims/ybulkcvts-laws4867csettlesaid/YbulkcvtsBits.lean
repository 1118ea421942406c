/- Bits as lists: the plain law of the law's own model. -/
import Derived.Test.YbulkcvtsBuilt
namespace Go.Proofs.Ybulkcvts
open Go.RowKit

def val : List Nat → Nat
  | [] => 0
  | b :: bs => b + 2 * val bs

theorem val_append (xs ys : List Nat) : val (xs ++ ys) = val xs + 2 ^ xs.length * val ys := by
  induction xs with
  | nil => simp [val]
  | cons b bs ih => simp only [List.cons_append, val, ih, List.length_cons, Nat.pow_succ]; rw [Nat.mul_add, ← Nat.mul_assoc, Nat.mul_comm 2 (2 ^ bs.length), Nat.add_assoc]

theorem val_lt (xs : List Nat) (h : ∀ b ∈ xs, b < 2) : val xs < 2 ^ xs.length := by
  induction xs with
  | nil => simp [val]
  | cons b bs ih =>
    have h1 := h b (by simp)
    have h2 := ih (fun c hc => h c (by simp [hc]))
    simp only [val, List.length_cons, Nat.pow_succ]; omega

theorem val_zeros (n : Nat) : val (List.replicate n 0) = 0 := by
  induction n with
  | zero => rfl
  | succ n ih => simp [List.replicate_succ, val, ih]
theorem val_ones (n : Nat) : val (List.replicate n 1) = 2 ^ n - 1 := by
  induction n with
  | zero => rfl
  | succ n ih => have := Nat.two_pow_pos n; simp only [List.replicate_succ, val, ih, Nat.pow_succ]; omega

def bitsL (a n : Nat) : List Nat := (List.range n).map fun i => a / 2 ^ i % 2
theorem bitsL_succ (a n : Nat) : bitsL a (n + 1) = bitsL a n ++ [a / 2 ^ n % 2] := by simp [bitsL, List.range_succ]
theorem bitsL_length (a n : Nat) : (bitsL a n).length = n := by simp [bitsL]
theorem val_bitsL (a n : Nat) : val (bitsL a n) = a % 2 ^ n := by
  induction n with
  | zero => simp [bitsL, val, Nat.mod_one]
  | succ n ih => rw [bitsL_succ, val_append, ih, bitsL_length]; simp only [val, Nat.mul_zero, Nat.add_zero]; rw [Nat.mod_pow_succ]

/-- The bits that wait, and those behind them. -/
def pbL (a n z j : Nat) : List Nat := bitsL a n ++ List.replicate z 0 ++ List.replicate j 1
theorem pbL_length (a n z j : Nat) : (pbL a n z j).length = n + z + j := by simp [pbL, bitsL_length]; omega
theorem pbL_succ (a n z j : Nat) : pbL a n z (j + 1) = pbL a n z j ++ [1] := by simp [pbL, List.replicate_succ']
theorem pbL_bit (a n z j : Nat) : ∀ b ∈ pbL a n z j, b < 2 := by
  intro b hb
  simp only [pbL, bitsL, List.mem_append, List.mem_map, List.mem_replicate] at hb
  rcases hb with (⟨i, _, rfl⟩ | ⟨_, rfl⟩) | ⟨_, rfl⟩ <;> omega
theorem val_pbL (a n z j : Nat) (ha : a < 2 ^ n) : val (pbL a n z j) = a + (2 ^ j - 1) * 2 ^ (n + z) := by
  simp only [pbL, val_append, val_bitsL, val_zeros, val_ones, List.length_append, bitsL_length, List.length_replicate]
  rw [Nat.mod_eq_of_lt ha, Nat.mul_zero, Nat.add_zero, Nat.mul_comm]

theorem bit_lt (L : List Nat) (h : ∀ b ∈ L, b < 2) (i : Nat) : L.getD i 0 < 2 := by
  rw [List.getD]
  cases e : L[i]? with
  | none => simp
  | some b => exact h b (List.mem_of_getElem? e)

theorem take_snoc {α : Type} (L : List α) (d : α) (i : Nat) (h : i < L.length) : L.take (i + 1) = L.take i ++ [L.getD i d] := by
  rw [List.take_succ_eq_append_getElem h]; simp [List.getD, h]

/-- One step of 'v |= pb[j] << j'. -/
theorem val_step (L : List Nat) (h : ∀ b ∈ L, b < 2) (i : Nat) (hi : i < L.length) (h8 : i < 8) :
    bits .or .u8 ((val (L.take i) : Nat) : Int) ((L.getD i 0 : Nat) * 2 ^ i % 256 : Int) = ((val (L.take (i + 1)) : Nat) : Int) := by
  have hb := bit_lt L h i
  have hlt : val (L.take i) < 2 ^ i := by
    have := val_lt (L.take i) (fun b hb => h b (List.mem_of_mem_take hb))
    rwa [List.length_take, Nat.min_eq_left (by omega)] at this
  have hp : 2 ^ i ≤ 2 ^ 7 := Nat.pow_le_pow_right (by decide) (by omega)
  have hm : L.getD i 0 * 2 ^ i ≤ 1 * 2 ^ i := Nat.mul_le_mul_right _ (by omega)
  have e : ((L.getD i 0 : Nat) * 2 ^ i % 256 : Int) = ((L.getD i 0 * 2 ^ i : Nat) : Int) := by
    have e1 : ((L.getD i 0 : Nat) * 2 ^ i : Int) = ((L.getD i 0 * 2 ^ i : Nat) : Int) := by simp
    rw [e1]; omega
  rw [e, u8_or_nat _ _ (by omega) (by omega), Nat.or_comm, nat_join i _ _ (Nat.mul_mod_left _ _) hlt]
  rw [take_snoc L 0 i hi, val_append, List.length_take, Nat.min_eq_left (by omega)]
  simp only [val]
  rw [Nat.mul_comm (2 ^ i), Nat.mul_zero, Nat.add_zero, Nat.add_comm]

theorem val_cut (L : List Nat) (h : ∀ b ∈ L, b < 2) (h8 : 8 ≤ L.length) : val (L.take 8) = val L % 256 ∧ val (L.drop 8) = val L / 256 := by
  have e : val L = val (L.take 8) + 256 * val (L.drop 8) := by
    conv => lhs; rw [← List.take_append_drop 8 L]
    rw [val_append, List.length_take, Nat.min_eq_left h8]
  have hlt := val_lt (L.take 8) (fun b hb => h b (List.mem_of_mem_take hb))
  rw [List.length_take, Nat.min_eq_left h8] at hlt
  omega

theorem bit_and (a j : Nat) (ha : a < 256) : bits .and .u8 ((a : Int) / 2 ^ j) 1 = ((a / 2 ^ j % 2 : Nat) : Int) := by
  have e : (a : Int) / 2 ^ j = ((a / 2 ^ j : Nat) : Int) := by simp
  have hl : a / 2 ^ j ≤ a := Nat.div_le_self _ _
  rw [e, show (1 : Int) = ((1 : Nat) : Int) from rfl, u8_and_nat _ _ (by omega) (by omega), nat_mask1]

/-- 'make([]byte, l, c)'. -/
theorem wpList_make_blk {P : Program} (w : World) {ops : Array Oper} {rest : List Oper} {o : Oper} {a : Act} {Q : Exit → Act → World → Prop}
    (hg : o.guard = none) (l c : Operand) (t : TypeId) (hop : o.op = Op.makeSlice t l c)
    (e : TypeId) (i : TypeInfo) (z : Value) (h1 : P.underlying t = some (.slice e)) (h2 : P.info? e = some i) (h3 : i.zero = some z) (h4 : i.size = 1) (hz : z.cells = #[z])
    (kl kc : IntKind) (L C : Int) (nl nc : Nat) (hl : a.eval l = .int kl L) (hc : a.eval c = .int kc C) (hL : L = (nl : Int)) (hC : C = (nc : Int)) (hlc : nl ≤ nc) (b2 : i.bytes * nc ≤ 281474976710656) (b3 : nc ≤ maxLen)
    (hK : ∀ w' (cur : List Value), cur.length = nc → w'.heap[w.heap.size]? = some (.cells cur.toArray e (0, 0)) → w.grownBy w' none → wpList P ops Q rest (a.put o.dst (.slice (some ⟨w.heap.size, 0, none⟩) nl nc)) w') :
    wpList P ops Q (o :: rest) a w := by
  refine wpList_plain hg fun K hK' => ?_
  have b3' : (nc : Int) ≤ 9223372036854775807 := by unfold maxLen at b3; omega
  have b2' : (i.bytes : Int) * (nc : Int) ≤ 281474976710656 := by have h := Int.ofNat_le.2 b2; rw [Int.natCast_mul] at h; exact h
  have hrun := run_make (P := P) w t e i z h1 h2 h3 kl kc (nl : Int) (nc : Int) (by omega) (by omega) b2' b3'
  subst hL
  subst hC
  unfold Oper.wp
  simp [execOp, hop, hl, hc, hrun, Result.andThen]
  refine hK' _ _ (hK _ (madeCells z.cells (nc * i.size)).toList ?_ ?_ (World.grownBy_alloc _ _ _))
  · simp [madeCells, h4, hz]
  · simpa using heap_alloc_new w (.cells (madeCells z.cells (nc * i.size)) e)
end Go.Proofs.Ybulkcvts

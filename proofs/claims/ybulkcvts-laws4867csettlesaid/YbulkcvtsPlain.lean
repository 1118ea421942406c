/- The plain law of the bits: no Go in sight (but for the walk's spelling of '|'). -/
import Derived.Test.YbulkcvtsBase
namespace Go.Proofs.Ybulkcvts

theorem join_lt (a v n nn : Nat) (ha : a < 2 ^ n) (hv : v < 2 ^ nn) : a + v * 2 ^ n < 2 ^ (n + nn) := by
  have h1 : (v + 1) * 2 ^ n ≤ 2 ^ nn * 2 ^ n := Nat.mul_le_mul_right _ hv
  rw [Nat.add_mul, Nat.one_mul] at h1
  rw [Nat.pow_add, Nat.mul_comm (2 ^ n)]
  omega

theorem or_join (a v n nn : Nat) (ha : a < 2 ^ n) (hv : v < 2 ^ nn) (hT : n + nn < 32) :
    bits .or .u32 (a : Int) ((v : Int) * 2 ^ n % 4294967296) = ((a + v * 2 ^ n : Nat) : Int) := by
  have hlt := join_lt a v n nn ha hv
  have hp : 2 ^ (n + nn) ≤ 2 ^ 31 := Nat.pow_le_pow_right (by decide) (by omega)
  have e : (v : Int) * 2 ^ n % 4294967296 = ((v * 2 ^ n : Nat) : Int) := by
    have e1 : (v : Int) * 2 ^ n = ((v * 2 ^ n : Nat) : Int) := by simp
    rw [e1]; omega
  rw [e, u32_or_nat a (v * 2 ^ n) (by omega) (by omega), Nat.or_comm, nat_join n _ _ (Nat.mul_mod_left _ _) ha, Nat.add_comm]

/-! The state behind 'keep': V the bits as a number, T how many. -/
def kA (V T : Nat) : Nat := if T < 8 then V else V / 256
def kN (T : Nat) : Nat := if T < 8 then T else T - 8
def kL (T k m : Nat) (lg : Bool) : Bool := if T < 8 then lg else if k < m then lg else true
def kK (T k m : Nat) : Nat := if T < 8 then k else if k < m then k + 1 else k
def kB (V T k m : Nat) (bs : List Value) : List Value := if T < 8 then bs else if k < m then bs ++ [.int .u8 ((V % 256 : Nat) : Int)] else bs
def zN (z : Bool) : Nat := if z then 1 else 0

theorem kA_lt (V T : Nat) (hV : V < 2 ^ T) (hT : T < 16) : kA V T < 2 ^ kN T := by
  unfold kA kN
  split
  · exact hV
  · rename_i h
    have e : 2 ^ T = 2 ^ (T - 8) * 256 := by
      rw [show (256 : Nat) = 2 ^ 8 from rfl, ← Nat.pow_add]; congr 1; omega
    rw [Nat.div_lt_iff_lt_mul (by decide)]; omega
end Go.Proofs.Ybulkcvts

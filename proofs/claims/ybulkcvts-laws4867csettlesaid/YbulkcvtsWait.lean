/- 'keep' in one contract; 'keepWaiting'. -/
import Derived.Test.YbulkcvtsKeep
import Derived.Test.YbulkcvtsPlain
namespace Go.Proofs.Ybulkcvts
open Go.RowKit

theorem keep_any (B0 B m a v n nn k cap : Nat) (ad : Option Addr) (ones dd : Int) (z h lg : Bool) (bs : List Value) (w : World) (vI nI : Int) (hvI : vI = (v : Nat)) (hnI : nI = (nn : Nat))
    (hB : Blk w B 31 (dec m ones z h (.slice ad k cap) a n lg dd)) (hown : w.ownsRow B0 5 1 (.slice ad k cap) k bs) (hB0 : B0 ≤ B)
    (ha : a < 2 ^ n) (hv : v < 2 ^ nn) (hn : n < 8) (hT : n + nn < 16) (hk : k < 1000) :
    Calls Yba.prog 11 #[.pointer (some ⟨B, 0, none⟩), .int .u32 vI, .int .u64 nI] w fun e w' => e = .returned (.tuple #[]) ∧
      Dst B0 B w w' m ones z h (kA (a + v * 2 ^ n) (n + nn)) (kN (n + nn)) (kL (n + nn) k m lg) dd (kK (n + nn) k m) (kB (a + v * 2 ^ n) (n + nn) k m bs) := by
  subst hvI hnI
  have hacc := or_join a v n nn ha hv (by omega)
  have hlt := join_lt a v n nn ha hv
  have h256 : a < 256 := Nat.lt_of_lt_of_le ha (show 2 ^ n ≤ 2 ^ 8 from Nat.pow_le_pow_right (by decide) (by omega))
  have h16 : 2 ^ (n + nn) ≤ 2 ^ 16 := Nat.pow_le_pow_right (by decide) (by omega)
  by_cases hs : n + nn < 8
  · have h8 : 2 ^ (n + nn) ≤ 2 ^ 8 := Nat.pow_le_pow_right (by decide) (by omega)
    have := keep_small B0 B m a v n nn (a + v * 2 ^ n) k cap ad ones dd z h lg bs w hB hown hB0 hacc h256 (by omega) hs
    simpa only [kA, kN, kL, kK, kB, if_pos hs] using this
  · by_cases hkm : k < m
    · have := keep_push B0 B m a v n nn (a + v * 2 ^ n) k cap ad ones dd z h lg bs w hB hown hB0 hacc h256 (by omega) (by omega) hT (by omega) hk hkm
      simpa only [kA, kN, kL, kK, kB, if_neg hs, if_pos hkm] using this
    · have := keep_long B0 B m a v n nn (a + v * 2 ^ n) k cap ad ones dd z h lg bs w hB hown hB0 hacc h256 (by omega) (by omega) hT (by omega) hk hkm
      simpa only [kA, kN, kL, kK, kB, if_neg hs, if_neg hkm] using this

set_option maxHeartbeats 400000 in
theorem wait_no (B0 B m a n o k cap : Nat) (ad : Option Addr) (dd : Int) (h lg : Bool) (bs : List Value) (w : World)
    (hB : Blk w B 31 (dec m 0 false h (.slice ad k cap) a n lg dd)) (hown : w.ownsRow B0 5 1 (.slice ad k cap) k bs) (hB0 : B0 ≤ B)
    (ha : a < 2 ^ n) (hn : n < 8) (ho : o ≤ 5) (hk : k < 1000) :
    Calls Yba.prog 7 #[.pointer (some ⟨B, 0, none⟩), .int .i64 o] w fun e w' => e = .returned (.tuple #[]) ∧
      Dst B0 B w w' m 0 false h (kA (a + (2 ^ o - 1) * 2 ^ n) (n + o)) (kN (n + o)) (kL (n + o) k m lg) dd (kK (n + o) k m) (kB (a + (2 ^ o - 1) * 2 ^ n) (n + o) k m bs) := by
  have g8 : w.cell? ⟨B, 8, none⟩ = some (.bool false) := hB.cell 8 rfl
  go_enter Yba.func7, Yba.ntmps7
  go_wp2_with fail
  refine (keep_any B0 B m a (2 ^ o - 1) n o k cap ad 0 dd false h lg bs _ _ _ ?h1 ?h2 hB hown hB0 ha (by have := Nat.two_pow_pos o; omega) hn (by omega) hk).mono ?_
  case h1 => rcases (show o = 0 ∨ o = 1 ∨ o = 2 ∨ o = 3 ∨ o = 4 ∨ o = 5 by omega) with rfl | rfl | rfl | rfl | rfl | rfl <;> rfl
  case h2 => omega
  rintro e w' ⟨rfl, hd⟩
  go_wp2
  go_end0
  exact ⟨rfl, hd⟩

theorem kB_bits (V k m : Nat) (bs : List Value) (T : Nat) (h : T < 8) : kB V T k m bs = bs := by simp [kB, h]

/-- Two 'keep's, a 0 and then o 1s, are one. -/
theorem two_keeps (a n o k m : Nat) (lg : Bool) (bs : List Value) (ha : a < 2 ^ n) (hn : n < 8) (ho : o ≤ 5) :
    let a1 := kA (a + 0 * 2 ^ n) (n + 1); let n1 := kN (n + 1); let k1 := kK (n + 1) k m; let l1 := kL (n + 1) k m lg; let b1 := kB (a + 0 * 2 ^ n) (n + 1) k m bs
    let V := a + (2 ^ o - 1) * 2 ^ (n + 1); let T := n + 1 + o
    kA (a1 + (2 ^ o - 1) * 2 ^ n1) (n1 + o) = kA V T ∧ kN (n1 + o) = kN T ∧ kL (n1 + o) k1 m l1 = kL T k m lg ∧ kK (n1 + o) k1 m = kK T k m ∧ kB (a1 + (2 ^ o - 1) * 2 ^ n1) (n1 + o) k1 m b1 = kB V T k m bs := by
  intro a1 n1 k1 l1 b1 V T
  by_cases h7 : n + 1 < 8
  · have e1 : a1 = a := by simp [a1, kA, h7]
    have e2 : n1 = n + 1 := by simp [n1, kN, h7]
    have e3 : k1 = k := by simp [k1, kK, h7]
    have e4 : l1 = lg := by simp [l1, kL, h7]
    have e5 : b1 = bs := by simp [b1, kB, h7]
    rw [e1, e2, e3, e4, e5]
    exact ⟨rfl, rfl, rfl, rfl, rfl⟩
  · obtain rfl : n = 7 := by omega
    have h128 : a < 128 := ha
    have e1 : a1 = 0 := by simp [a1, kA]; omega
    have e2 : n1 = 0 := by simp [n1, kN]
    have hV : V = a + (2 ^ o - 1) * 256 := rfl
    have hT : T = 8 + o := rfl
    have hv1 : V / 256 = 2 ^ o - 1 := by rw [hV]; omega
    have hv2 : V % 256 = a := by rw [hV]; omega
    have q1 : (0 + o) < 8 := by omega
    have q2 : ¬ T < 8 := by omega
    rw [e1, e2]
    refine ⟨?_, ?_, ?_, ?_, ?_⟩
    · simp only [kA, if_pos q1, if_neg q2, hv1]; omega
    · simp only [kN, if_pos q1, if_neg q2]; omega
    · simp only [kL, if_pos q1, if_neg q2, l1]; rfl
    · simp only [kK, if_pos q1, if_neg q2, k1]; rfl
    · simp only [kB, if_pos q1, if_neg q2, b1, hv2]
      simp [Nat.mod_eq_of_lt (show a < 256 by omega)]

set_option maxHeartbeats 400000 in
theorem wait_yes (B0 B m a n o k cap : Nat) (ad : Option Addr) (dd : Int) (h lg : Bool) (bs : List Value) (w : World)
    (hB : Blk w B 31 (dec m 0 true h (.slice ad k cap) a n lg dd)) (hown : w.ownsRow B0 5 1 (.slice ad k cap) k bs) (hB0 : B0 ≤ B)
    (ha : a < 2 ^ n) (hn : n < 8) (ho : o ≤ 5) (hk : k < 900) :
    Calls Yba.prog 7 #[.pointer (some ⟨B, 0, none⟩), .int .i64 o] w fun e w' => e = .returned (.tuple #[]) ∧
      Dst B0 B w w' m 0 true h (kA (a + (2 ^ o - 1) * 2 ^ (n + 1)) (n + 1 + o)) (kN (n + 1 + o)) (kL (n + 1 + o) k m lg) dd (kK (n + 1 + o) k m) (kB (a + (2 ^ o - 1) * 2 ^ (n + 1)) (n + 1 + o) k m bs) := by
  have g8 : w.cell? ⟨B, 8, none⟩ = some (.bool true) := hB.cell 8 rfl
  go_enter Yba.func7, Yba.ntmps7
  go_wp2_with fail
  refine (keep_any B0 B m a 0 n 1 k cap ad 0 dd true h lg bs _ _ _ rfl rfl hB hown hB0 ha (by decide) hn (by omega) (by omega)).mono ?_
  rintro e w' ⟨rfl, ad', cap', hB', hown', hb'⟩
  have hpow : 2 ^ n * 2 = 2 ^ (n + 1) := (Nat.pow_succ 2 n).symm
  have hA := kA_lt (a + 0 * 2 ^ n) (n + 1) (by omega) (by omega)
  have hN : kN (n + 1) < 8 := by unfold kN; split <;> omega
  have hK : kK (n + 1) k m < 1000 := by unfold kK; split <;> (try split) <;> omega
  have HR := two_keeps a n o k m lg bs ha hn ho
  have HH : Hid (_ ∧ _) := HR
  clear HR hpow
  go_wp2_with fail
  refine (keep_any B0 B m _ (2 ^ o - 1) _ o _ cap' ad' 0 dd true h _ _ _ _ _ ?h1 ?h2 hB' hown' hB0 hA (by have := Nat.two_pow_pos o; omega) hN (by omega) hK).mono ?_
  case h1 => rcases (show o = 0 ∨ o = 1 ∨ o = 2 ∨ o = 3 ∨ o = 4 ∨ o = 5 by omega) with rfl | rfl | rfl | rfl | rfl | rfl <;> rfl
  case h2 => omega
  rintro e w2 ⟨rfl, ad2, cap2, hB2, hown2, hb2⟩
  go_wp2
  go_end0
  refine ⟨rfl, ?_⟩
  obtain ⟨r1, r2, r3, r4, r5⟩ := HH.out
  rw [r4, r1, r2, r3] at hB2
  rw [r4, r5] at hown2
  exact ⟨ad2, cap2, hB2, hown2, hb'.trans hb2⟩
end Go.Proofs.Ybulkcvts

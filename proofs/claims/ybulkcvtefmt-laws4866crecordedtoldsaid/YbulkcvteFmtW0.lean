/- The law's walk: the members that the mask names. -/
import Derived.Test.YbulkcvteFmtAts
namespace Go.Proofs.YbulkcvteFmt
open Go.RowKit
set_option linter.unusedVariables false

set_option maxRecDepth 100000 in
set_option maxHeartbeats 16000000 in
theorem st0 (sm pm hh mm md vv bv cb qb : Nat) (a2 a7 : Option Addr) (l2 c2 l7 c7 : Nat) (r2 r7 : Nat → Nat) (w : World) (hI : Inp w sm pm hh mm md vv bv cb qb a2 a7 l2 l7 r2 r7) (hnext : At4 sm pm hh mm md vv bv cb qb a2 a7 l2 c2 l7 c7 r2 r7 w) : Rest 0 (LawQ w) { tmps := #[.int .u16 sm, .int .u16 pm, .slice a2 l2 c2, .int .u64 hh, .int .u16 mm, .int .u8 md, .int .u8 vv, .slice a7 l7 c7, .int .u32 bv, .int .u8 cb, .int .u8 qb, undef, undef, undef, undef, undef, undef, undef, undef, undef, undef, undef, undef, undef, undef, undef, undef, undef, undef, undef, undef, undef, undef, undef, undef, undef, undef, undef, undef, undef, undef, undef, undef, undef, undef, undef, undef, undef, undef, undef, undef, undef, undef, undef, undef, undef, undef, undef, undef, undef, undef, undef, undef, undef, undef, undef, undef, undef, undef, undef, undef, undef, undef, undef, undef, undef, undef, undef, undef, undef, undef, undef, undef, undef, undef, undef, undef, undef, undef, undef, undef, undef, undef, undef, undef, undef, undef, undef, undef, undef, undef, undef, undef, undef, undef, undef, undef, undef, undef, undef, undef, undef, undef, undef, undef, undef, undef, undef, undef, undef, undef, undef, undef, undef, undef, undef, undef, undef, undef, undef, undef, undef, undef, undef, undef, undef, undef, undef, undef, undef, undef, undef, undef, undef, undef, undef, undef, undef, undef, undef, undef, undef, undef, undef, undef, undef, undef, undef, undef, undef, undef, undef, undef, undef, undef, undef, undef, undef, undef, undef, undef, undef, undef, undef, undef, undef, undef, undef, undef, undef, undef, undef, undef, undef, undef, undef, undef, undef, undef, undef, undef, undef, undef, undef, undef, undef, undef, undef, undef, undef, undef, undef, undef, undef, undef, undef, undef, undef, undef, undef, undef, undef, undef, undef, undef, undef, undef, undef, undef, undef, undef, undef, undef, undef, undef, undef, undef, undef, undef, undef, undef, undef, undef, undef, undef, undef, undef, undef, undef, undef, undef, undef, undef, undef, undef, undef, undef, undef, undef, undef, undef, undef, undef, undef, undef, undef, undef, undef, undef, undef, undef, undef, undef, undef, undef, undef, undef, undef, undef, undef, undef, undef, undef, undef, undef, undef, undef, undef, undef, undef, undef, undef, undef, undef, undef, undef, undef, undef, undef, undef, undef, undef, undef, undef, undef, undef, undef, undef, undef, undef, undef, undef, undef, undef, undef, undef, undef, undef, undef, undef, undef, undef, undef, undef, undef, undef, undef, undef, undef, undef, undef, undef, undef, undef, undef, undef, undef, undef, undef, undef, undef, undef, undef, undef, undef, undef, undef, undef, undef, undef, undef, undef, undef, undef, undef, undef, undef, undef, undef, undef, undef, undef, undef, undef, undef, undef, undef, undef, undef, undef, undef, undef, undef, undef, undef, undef, undef, undef, undef, undef, undef, undef, undef, undef, undef, undef, undef, undef, undef, undef, undef, undef, undef, undef, undef, undef, undef, undef, undef, undef, undef, undef, undef, undef, undef, undef, undef, undef, undef, undef, undef, undef, undef, undef, undef, undef, undef, undef, undef, undef, undef, undef, undef, undef, undef, undef, undef, undef, undef, undef, undef, undef, undef, undef], defers := [] } w := by
  have HN := Hid.mk hnext
  have h2 := hI.kl2
  have h7 := hI.kl7
  have hsm := hI.ksm
  clear hI hnext
  refine Rest.step rfl rfl ?_
  intro K hK
  go_wp2_with fail
  refine hK.out _ _ ?_
  clear hK K
  refine Rest.step rfl rfl ?_
  intro K hK
  go_wp2_with fail
  refine hK.out _ _ ?_
  clear hK K
  refine Rest.step rfl rfl ?_
  intro K hK
  go_wp2_with fail
  refine hK.out _ _ ?_
  clear hK K
  refine Rest.step rfl rfl ?_
  intro K hK
  go_wp2_with fail
  go_loopw [23, 24] (fun x i wr => ∃ k : Nat, k ≤ 16 ∧ i = .int .i64 k ∧ Below w.heap.size w wr ∧ OwnI wr w.heap.size x (setTo sm k)) (fun _ i _ => 16 - (intOf i).toNat)
  case atStart => exact ⟨0, Nat.zero_le _, rfl, Below.refl _ _, OwnI.nil _ _⟩
  case round =>
    obtain ⟨k, hk, rfl, hb, hown⟩ := hrel
    by_cases hk16 : k < 16
    · have hst := setTo_succ sm k
      have hln := setTo_len sm k
      have hsz := hb.size
      cases hbit : bit sm k with
      | true =>
        rw [hbit] at hst
        have HST := Hid.mk hst
        have hb1 : (bits .and .u16 ((sm : Int) / 2 ^ k) 1 == 1) = true := hbit
        clear hst hbit
        go_wp2_with (at_builtin; refine app27 rfl _ _ rfl w.heap.size _ _ rfl hown (k : Int) rfl (by omega) hsz ?_; intro x' w3 hown3 hb3)
        go_roundw
        case rel => exact ⟨k + 1, by omega, by go_num, hb.trans hb3, by rw [HST.out]; exact hown3⟩
        case measure => simp [intOf]; omega
      | false =>
        rw [hbit] at hst
        have HST := Hid.mk hst
        have hb1 : (bits .and .u16 ((sm : Int) / 2 ^ k) 1 == 1) = false := hbit
        clear hst hbit
        go_wp2
        go_roundw
        case rel => exact ⟨k + 1, by omega, by go_num, hb, by rw [HST.out]; simpa using hown⟩
        case measure => simp [intOf]; omega
    · have hk' : k = 16 := by omega
      rw [hk'] at hown
      clear hk' hk
      obtain ⟨xa, xc, rfl⟩ := hown.shape
      go_wp2_with fail
      refine hK.out _ _ ?_
      exact HN.out wr _ _ _ _ _ _ _ _ _ _ _ _ _ _ _ _ _ _ _ _ _ _ _ _ _ _ _ _ _ _ _ _ _ _ _ _ _ _ _ _ _ _ _ _ _ _ _ _ _ _ _ _ _ _ _ _ _ _ _ _ _ _ _ _ _ _ _ _ _ _ _ _ _ _ _ _ _ _ _ _ _ _ _ _ _ _ _ _ _ _ _ _ _ _ _ _ _ _ _ _ _ _ _ _ _ _ _ _ _ _ _ _ _ _ _ _ _ _ _ _ _ _ _ _ _ _ _ _ _ _ _ _ _ _ _ _ _ _ _ _ _ _ _ _ _ _ _ _ _ _ _ _ _ _ _ _ _ _ _ _ _ _ _ _ _ _ _ _ _ _ _ _ _ _ _ _ _ _ _ _ _ _ _ _ _ _ _ _ _ _ _ _ _ _ _ _ _ _ _ _ _ _ _ _ _ _ _ _ _ _ _ _ _ _ _ _ _ _ _ _ _ _ _ _ _ _ _ _ _ _ _ _ _ _ _ _ _ _ _ _ _ _ _ _ _ _ _ _ _ _ _ _ _ _ _ _ _ _ _ _ _ _ _ _ _ _ _ _ _ _ _ _ _ _ _ _ _ _ _ _ _ _ _ _ _ _ _ _ _ _ _ _ _ _ _ _ _ _ _ _ _ _ _ _ _ _ _ _ _ _ _ _ _ _ _ _ _ _ _ _ _ _ _ _ _ _ _ _ _ _ _ _ _ _ _ _ _ _ _ _ _ _ _ _ _ _ _ _ _ _ _ _ _ _ _ _ _ _ _ _ _ _ _ _ _ _ _ _ _ _ _ _ _ _ _ _ _ _ _ _ _ _ _ _ _ _ _ _ _ _ _ _ _ _ _ _ _ _ _ _ _ _ _ _ _ _ _ _ _ _ _ _ _ hb hown

set_option maxRecDepth 100000 in
set_option maxHeartbeats 16000000 in
/-- Rows that are too long: the law holds at once. -/
theorem st0big (sm pm hh mm md vv bv cb qb : Nat) (a2 a7 : Option Addr) (l2 c2 l7 c7 : Nat) (r2 r7 : Nat → Nat) (w : World) (hl : 1024 < l2 ∨ 1024 < l7) : Rest 0 (LawQ w) { tmps := #[.int .u16 sm, .int .u16 pm, .slice a2 l2 c2, .int .u64 hh, .int .u16 mm, .int .u8 md, .int .u8 vv, .slice a7 l7 c7, .int .u32 bv, .int .u8 cb, .int .u8 qb, undef, undef, undef, undef, undef, undef, undef, undef, undef, undef, undef, undef, undef, undef, undef, undef, undef, undef, undef, undef, undef, undef, undef, undef, undef, undef, undef, undef, undef, undef, undef, undef, undef, undef, undef, undef, undef, undef, undef, undef, undef, undef, undef, undef, undef, undef, undef, undef, undef, undef, undef, undef, undef, undef, undef, undef, undef, undef, undef, undef, undef, undef, undef, undef, undef, undef, undef, undef, undef, undef, undef, undef, undef, undef, undef, undef, undef, undef, undef, undef, undef, undef, undef, undef, undef, undef, undef, undef, undef, undef, undef, undef, undef, undef, undef, undef, undef, undef, undef, undef, undef, undef, undef, undef, undef, undef, undef, undef, undef, undef, undef, undef, undef, undef, undef, undef, undef, undef, undef, undef, undef, undef, undef, undef, undef, undef, undef, undef, undef, undef, undef, undef, undef, undef, undef, undef, undef, undef, undef, undef, undef, undef, undef, undef, undef, undef, undef, undef, undef, undef, undef, undef, undef, undef, undef, undef, undef, undef, undef, undef, undef, undef, undef, undef, undef, undef, undef, undef, undef, undef, undef, undef, undef, undef, undef, undef, undef, undef, undef, undef, undef, undef, undef, undef, undef, undef, undef, undef, undef, undef, undef, undef, undef, undef, undef, undef, undef, undef, undef, undef, undef, undef, undef, undef, undef, undef, undef, undef, undef, undef, undef, undef, undef, undef, undef, undef, undef, undef, undef, undef, undef, undef, undef, undef, undef, undef, undef, undef, undef, undef, undef, undef, undef, undef, undef, undef, undef, undef, undef, undef, undef, undef, undef, undef, undef, undef, undef, undef, undef, undef, undef, undef, undef, undef, undef, undef, undef, undef, undef, undef, undef, undef, undef, undef, undef, undef, undef, undef, undef, undef, undef, undef, undef, undef, undef, undef, undef, undef, undef, undef, undef, undef, undef, undef, undef, undef, undef, undef, undef, undef, undef, undef, undef, undef, undef, undef, undef, undef, undef, undef, undef, undef, undef, undef, undef, undef, undef, undef, undef, undef, undef, undef, undef, undef, undef, undef, undef, undef, undef, undef, undef, undef, undef, undef, undef, undef, undef, undef, undef, undef, undef, undef, undef, undef, undef, undef, undef, undef, undef, undef, undef, undef, undef, undef, undef, undef, undef, undef, undef, undef, undef, undef, undef, undef, undef, undef, undef, undef, undef, undef, undef, undef, undef, undef, undef, undef, undef, undef, undef, undef, undef, undef, undef, undef, undef, undef, undef, undef, undef, undef, undef, undef, undef, undef, undef, undef, undef, undef, undef, undef, undef, undef, undef, undef, undef, undef, undef, undef, undef, undef, undef, undef, undef, undef, undef, undef, undef, undef, undef, undef, undef, undef, undef], defers := [] } w := by
  refine Rest.step rfl rfl ?_
  intro K hK
  go_wp2_with fail
  refine hK.out _ _ ?_
  clear hK K
  refine Rest.step rfl rfl ?_
  intro K hK
  by_cases h2 : 1024 < l2
  · have hg : decide ((1024 : Int) < (l2 : Int)) = true := decide_eq_true (by omega)
    go_wp2
    go_ret
    exact ⟨rfl, Below.refl _ _⟩
  · have hg : decide ((1024 : Int) < (l2 : Int)) = false := decide_eq_false (by omega)
    have h7 : 1024 < l7 := by omega
    have hg7 : decide ((1024 : Int) < (l7 : Int)) = true := decide_eq_true (by omega)
    go_wp2
    go_ret
    exact ⟨rfl, Below.refl _ _⟩
end Go.Proofs.YbulkcvteFmt

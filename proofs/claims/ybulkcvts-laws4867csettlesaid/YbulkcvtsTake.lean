/- 'takeZero': its ways. -/
import Derived.Test.YbulkcvtsZero
namespace Go.Proofs.Ybulkcvts
open Go.RowKit

theorem dec_ones {w : World} {B m : Nat} {ones : Int} {z h : Bool} {fv : Value} {a n : Nat} {lg : Bool} {dd : Int} (hB : Blk w B 31 (dec m ones z h fv a n lg dd)) :
    Blk (w.setCell ⟨B, 7, none⟩ (.int .i64 0)) B 31 (dec m 0 z h fv a n lg dd) := hB.set 7 _
theorem dst_from {B0 B : Nat} {w w0 w' : World} {m : Nat} {ones : Int} {z h : Bool} {a n : Nat} {lg : Bool} {dd : Int} {k : Nat} {bs : List Value} (hd : Dst B0 B w w' m ones z h a n lg dd k bs) (hb : Below B0 w0 w) :
    Dst B0 B w0 w' m ones z h a n lg dd k bs := by
  obtain ⟨ad, cap, h1, h2, h3⟩ := hd
  exact ⟨ad, cap, h1, h2, hb.trans h3⟩

section
variable (B0 B m a n k cap : Nat) (ad : Option Addr) (dd : Int) (z h lg : Bool) (bs : List Value) (w : World)

set_option maxHeartbeats 400000 in
theorem take_hunt (o : Nat) (hB : Blk w B 31 (dec m o z true (.slice ad k cap) a n lg dd)) (hown : w.ownsRow B0 5 1 (.slice ad k cap) k bs) (hB0 : B0 ≤ B) (_ho : o < 8) (ho6 : ((o : Int) == 6) = false) :
    Calls Yba.prog 4 #[.pointer (some ⟨B, 0, none⟩)] w fun e w' => e = .returned (.slice none 0 0) ∧ Dst B0 B w w' m 0 z true a n lg dd k bs := by
  have g7 := hB.cell 7 rfl
  have g9 := hB.cell 9 rfl
  have f7 := hB.free 7
  go_enter Yba.func4, Yba.ntmps4
  go_wp2
  go_ret
  exact ⟨rfl, ad, cap, dec_ones hB, ownsRow_setCell_other hown (own_ne hown hB (by decide)) _, (Below.refl _ _).setCell hB0 _⟩

set_option maxHeartbeats 400000 in
theorem take_data (o : Nat) (hB : Blk w B 31 (dec m o z false (.slice ad k cap) a n lg dd)) (hown : w.ownsRow B0 5 1 (.slice ad k cap) k bs) (hB0 : B0 ≤ B) (ho : o ≤ 5)
    (ha : a < 2 ^ n) (hn : n < 8) (hk : k < 900) :
    Calls Yba.prog 4 #[.pointer (some ⟨B, 0, none⟩)] w fun e w' => e = .returned (.slice none 0 0) ∧
      Dst B0 B w w' m 0 (!((o : Int) == 5)) false (kA (a + (2 ^ o - 1) * 2 ^ (n + zN z)) (n + zN z + o)) (kN (n + zN z + o)) (kL (n + zN z + o) k m lg) dd (kK (n + zN z + o) k m) (kB (a + (2 ^ o - 1) * 2 ^ (n + zN z)) (n + zN z + o) k m bs) := by
  have g7 := hB.cell 7 rfl
  have g9 := hB.cell 9 rfl
  have f7 := hB.free 7
  have hwait : Hid (Calls Yba.prog 7 #[.pointer (some ⟨B, 0, none⟩), .int .i64 o] (w.setCell ⟨B, 7, none⟩ (.int .i64 0)) fun e w' => e = .returned (.tuple #[]) ∧
      Dst B0 B w w' m 0 z false (kA (a + (2 ^ o - 1) * 2 ^ (n + zN z)) (n + zN z + o)) (kN (n + zN z + o)) (kL (n + zN z + o) k m lg) dd (kK (n + zN z + o) k m) (kB (a + (2 ^ o - 1) * 2 ^ (n + zN z)) (n + zN z + o) k m bs)) := by
    have hown1 := ownsRow_setCell_other hown (own_ne hown hB (by decide)) (a := ⟨B, 7, none⟩) (.int .i64 0)
    have hb1 : Below B0 w (w.setCell ⟨B, 7, none⟩ (.int .i64 0)) := (Below.refl _ _).setCell hB0 _
    cases z with
    | false => exact (wait_no B0 B m a n o k cap ad dd false lg bs _ (dec_ones hB) hown1 hB0 ha hn ho (by omega)).mono fun e w' ⟨he, hd⟩ => ⟨he, dst_from hd hb1⟩
    | true => exact (wait_yes B0 B m a n o k cap ad dd false lg bs _ (dec_ones hB) hown1 hB0 ha hn ho hk).mono fun e w' ⟨he, hd⟩ => ⟨he, dst_from hd hb1⟩
  go_enter Yba.func4, Yba.ntmps4
  go_wp2_with (go_at_call 7; refine (hwait.out).mono ?_)
  rintro e w1 ⟨rfl, ad1, cap1, hB1, hown1, hb1⟩
  clear hwait g7 g9 f7
  have g8 := hB1.cell 8 rfl
  have f8 := hB1.free 8
  have hfin : Hid (∀ v : Bool, Dst B0 B w (w1.setCell ⟨B, 8, none⟩ (.bool v)) m 0 v false _ _ _ dd _ _) := fun v => ⟨ad1, cap1, hB1.set 8 _, ownsRow_setCell_other hown1 (own_ne hown1 hB1 (by decide)) _, hb1.setCell hB0 _⟩
  go_wp2
  go_ret
  exact ⟨rfl, hfin.out _⟩

set_option maxHeartbeats 400000 in
theorem take_none (hB : Blk w B 31 (dec m 6 z h (.slice ad 0 cap) 0 0 lg dd)) (hown : w.ownsRow B0 5 1 (.slice ad 0 cap) 0 []) (hB0 : B0 ≤ B) :
    Calls Yba.prog 4 #[.pointer (some ⟨B, 0, none⟩)] w fun e w' => e = .returned (.slice none 0 0) ∧ Dst B0 B w w' m 0 false false 0 0 false dd 0 [] := by
  have g7 := hB.cell 7 rfl
  have f7 := hB.free 7
  go_enter Yba.func4, Yba.ntmps4
  go_wp2_with (go_at_call 6; refine (close_none B0 B m cap ad dd z h lg _ (dec_ones hB) (ownsRow_setCell_other hown (own_ne hown hB (by decide)) _) hB0).mono ?_)
  rintro e w1 ⟨rfl, hd⟩
  go_wp2
  go_ret
  exact ⟨rfl, dst_from hd ((Below.refl _ _).setCell hB0 _)⟩

set_option maxHeartbeats 400000 in
theorem take_disc (hB : Blk w B 31 (dec m 6 z h (.slice ad k cap) a n lg dd)) (hown : w.ownsRow B0 5 1 (.slice ad k cap) k bs) (hB0 : B0 ≤ B) (hn : n < 8) (hk : k < 1000) (hh : 0 < k ∨ 0 < n) (hl : lg = true ∨ 0 < n) :
    Calls Yba.prog 4 #[.pointer (some ⟨B, 0, none⟩)] w fun e w' => e = .returned (.slice none 0 0) ∧ Dst B0 B w w' m 0 false false 0 0 false (wrap64 (dd + 1)) 0 [] := by
  have g7 := hB.cell 7 rfl
  have f7 := hB.free 7
  have hcl : Hid (Calls Yba.prog 6 #[.pointer (some ⟨B, 0, none⟩)] (w.setCell ⟨B, 7, none⟩ (.int .i64 0)) fun e w' => e = .returned (.slice none 0 0) ∧ _) := close_disc B0 B m a n k cap ad dd z h lg bs _ (dec_ones hB) (ownsRow_setCell_other hown (own_ne hown hB (by decide)) _) hB0 hn hk hh hl
  clear hh hl
  go_enter Yba.func4, Yba.ntmps4
  go_wp2_with (go_at_call 6; refine hcl.out.mono ?_)
  rintro e w1 ⟨rfl, hd⟩
  clear hcl
  go_wp2
  go_ret
  exact ⟨rfl, dst_from hd ((Below.refl _ _).setCell hB0 _)⟩

set_option maxHeartbeats 400000 in
theorem take_some (hB : Blk w B 31 (dec m 6 z h (.slice ad k cap) 0 0 false dd)) (hown : w.ownsRow B0 5 1 (.slice ad k cap) k bs) (hB0 : B0 ≤ B) (hk : k < 1000) (h0 : 0 < k) (h1 : ∀ u ∈ bs, u.oneCell' = true) :
    Calls Yba.prog 4 #[.pointer (some ⟨B, 0, none⟩)] w fun e w' => ∃ ad' cap', e = .returned (.slice (some ad') k cap') ∧ w'.ownsRow B0 5 1 (.slice (some ad') k cap') k bs ∧ Dst B0 B w w' m 0 false false 0 0 false dd 0 [] := by
  have g7 := hB.cell 7 rfl
  have f7 := hB.free 7
  have hcl : Hid (Calls Yba.prog 6 #[.pointer (some ⟨B, 0, none⟩)] (w.setCell ⟨B, 7, none⟩ (.int .i64 0)) _) := close_some B0 B m k cap ad dd z h bs _ (dec_ones hB) (ownsRow_setCell_other hown (own_ne hown hB (by decide)) _) hB0 hk h0 h1
  go_enter Yba.func4, Yba.ntmps4
  go_wp2_with (go_at_call 6; refine hcl.out.mono ?_)
  rintro e w1 ⟨ad', cap', rfl, hc, hd⟩
  clear hcl
  go_wp2
  go_ret
  exact ⟨ad', cap', rfl, hc, dst_from hd ((Below.refl _ _).setCell hB0 _)⟩
theorem take_none' (hB : Blk w B 31 (dec m 6 z h (.slice ad k cap) a n lg dd)) (hown : w.ownsRow B0 5 1 (.slice ad k cap) k bs) (hB0 : B0 ≤ B) (hk : k ≤ 0) (hn : n ≤ 0) (ha : a < 2 ^ n) :
    Calls Yba.prog 4 #[.pointer (some ⟨B, 0, none⟩)] w fun e w' => e = .returned (.slice none 0 0) ∧ Dst B0 B w w' m 0 false false 0 0 false dd 0 [] := by
  obtain rfl : k = 0 := by omega
  obtain rfl : n = 0 := by omega
  obtain rfl : a = 0 := by simpa using ha
  obtain rfl : bs = [] := List.eq_nil_of_length_eq_zero (by simpa using hown.1)
  exact take_none B0 B m cap ad dd z h lg w hB hown hB0

theorem take_some' (hB : Blk w B 31 (dec m 6 z h (.slice ad k cap) a n false dd)) (hown : w.ownsRow B0 5 1 (.slice ad k cap) k bs) (hB0 : B0 ≤ B) (hk : k < 1000) (h0 : 0 < k) (hn : n ≤ 0) (ha : a < 2 ^ n) (h1 : ∀ u ∈ bs, u.oneCell' = true) :
    Calls Yba.prog 4 #[.pointer (some ⟨B, 0, none⟩)] w fun e w' => ∃ ad' cap', e = .returned (.slice (some ad') k cap') ∧ w'.ownsRow B0 5 1 (.slice (some ad') k cap') k bs ∧ Dst B0 B w w' m 0 false false 0 0 false dd 0 [] := by
  obtain rfl : n = 0 := by omega
  obtain rfl : a = 0 := by simpa using ha
  exact take_some B0 B m k cap ad dd z h bs w hB hown hB0 hk h0 h1
end
end Go.Proofs.Ybulkcvts

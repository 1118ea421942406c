/- 'keep': three contracts: the bits fit; an octet is pushed; the frame is full. -/
import Derived.Test.YbulkcvtsBase
import Derived.Deep.QuietTactic
import Derived.BigQuiet
namespace Go.Proofs.Ybulkcvts
open Go.RowKit

theorem dst_two {B0 B : Nat} {w w1 : World} {m : Nat} {ones : Int} {z h : Bool} {ad : Option Addr} {cap : Nat} {a n : Nat} {lg : Bool} {dd : Int} {k : Nat} {bs : List Value}
    (hB : Blk w1 B 31 (dec m ones z h (.slice ad k cap) a n lg dd)) (hown : w1.ownsRow B0 5 1 (.slice ad k cap) k bs) (hb : Below B0 w w1) (hB0 : B0 ≤ B) (a' n' : Nat) (x y : Int) (hx : x = a') (hy : y = n') :
    Dst B0 B w ((w1.setCell ⟨B, 11, none⟩ (.int .u8 x)).setCell ⟨B, 12, none⟩ (.int .u64 y)) m ones z h a' n' lg dd k bs := by
  subst hx hy
  have hne := own_ne hown hB (by decide)
  refine ⟨ad, cap, ?_, ownsRow_setCell_other (ownsRow_setCell_other hown hne _) hne _, (hb.setCell hB0 _).setCell hB0 _⟩
  exact (hB.set 11 _).set 12 _

set_option maxHeartbeats 400000 in
theorem keep_small (B0 B m a v n nn V k cap : Nat) (ad : Option Addr) (ones dd : Int) (z h lg : Bool) (bs : List Value) (w : World)
    (hB : Blk w B 31 (dec m ones z h (.slice ad k cap) a n lg dd)) (hown : w.ownsRow B0 5 1 (.slice ad k cap) k bs) (hB0 : B0 ≤ B)
    (hacc : bits .or .u32 (a : Int) ((v : Int) * 2 ^ n % 4294967296) = (V : Int)) (ha : a < 256) (hV : V < 256) (hs : n + nn < 8) :
    Calls Yba.prog 11 #[.pointer (some ⟨B, 0, none⟩), .int .u32 v, .int .u64 nn] w fun e w' => e = .returned (.tuple #[]) ∧ Dst B0 B w w' m ones z h V (n + nn) lg dd k bs := by
  have g11 : w.cell? ⟨B, 11, none⟩ = some (.int .u8 a) := hB.cell 11 rfl
  have g12 : w.cell? ⟨B, 12, none⟩ = some (.int .u64 n) := hB.cell 12 rfl
  have f11 := hB.free 11
  have f12 := hB.free 12
  go_enter Yba.func11, Yba.ntmps11
  go_wp2_with fail
  go_quiet (fail)
  go_wp2_with fail
  refine wp_loop_rounds 1 ?_
  rw [rounds_succ]
  go_wp2
  go_end0
  exact ⟨rfl, dst_two (hB.drewN nq) hown (below_drewN (Below.refl _ _) _) hB0 _ _ _ _ (by omega) (by omega)⟩

set_option maxHeartbeats 400000 in
theorem keep_long (B0 B m a v n nn V k cap : Nat) (ad : Option Addr) (ones dd : Int) (z h lg : Bool) (bs : List Value) (w : World)
    (hB : Blk w B 31 (dec m ones z h (.slice ad k cap) a n lg dd)) (hown : w.ownsRow B0 5 1 (.slice ad k cap) k bs) (hB0 : B0 ≤ B)
    (hacc : bits .or .u32 (a : Int) ((v : Int) * 2 ^ n % 4294967296) = (V : Int)) (ha : a < 256) (hV : V < 65536) (hs : 8 ≤ n + nn) (hs2 : n + nn < 16) (_hn : n < 16) (_hk : k < 1000) (hkm : ¬ k < m) :
    Calls Yba.prog 11 #[.pointer (some ⟨B, 0, none⟩), .int .u32 v, .int .u64 nn] w fun e w' => e = .returned (.tuple #[]) ∧ Dst B0 B w w' m ones z h (V / 256) (n + nn - 8) true dd k bs := by
  have g1 : w.cell? ⟨B, 1, none⟩ = some (.int .i64 m) := hB.cell 1 rfl
  have g10 : w.cell? ⟨B, 10, none⟩ = some (.slice ad k cap) := hB.cell 10 rfl
  have g11 : w.cell? ⟨B, 11, none⟩ = some (.int .u8 a) := hB.cell 11 rfl
  have g12 : w.cell? ⟨B, 12, none⟩ = some (.int .u64 n) := hB.cell 12 rfl
  have f11 := hB.free 11
  have f12 := hB.free 12
  have f13 := hB.free 13
  have g13 : w.cell? ⟨B, 13, none⟩ = some (.bool lg) := hB.cell 13 rfl
  go_enter Yba.func11, Yba.ntmps11
  go_wp2_with fail
  go_quiet (fail)
  go_wp2_with fail
  refine wp_loop_rounds 2 ?_
  rw [rounds_succ]
  go_wp2_with fail
  go_quiet (fail)
  go_wp2
  rw [rounds_succ]
  go_wp2
  go_end0
  exact ⟨rfl, dst_two (w1 := (w.drewN _).setCell ⟨B, 13, none⟩ (.bool true)) ((hB.drewN _).set 13 _) (ownsRow_setCell_other hown (own_ne hown hB (by decide)) _) ((below_drewN (Below.refl _ _) _).setCell hB0 _) hB0 _ _ _ _ (by omega) (by omega)⟩

set_option maxHeartbeats 400000 in
theorem keep_push (B0 B m a v n nn V k cap : Nat) (ad : Option Addr) (ones dd : Int) (z h lg : Bool) (bs : List Value) (w : World)
    (hB : Blk w B 31 (dec m ones z h (.slice ad k cap) a n lg dd)) (hown : w.ownsRow B0 5 1 (.slice ad k cap) k bs) (hB0 : B0 ≤ B)
    (hacc : bits .or .u32 (a : Int) ((v : Int) * 2 ^ n % 4294967296) = (V : Int)) (ha : a < 256) (hV : V < 65536) (hs : 8 ≤ n + nn) (hs2 : n + nn < 16) (hn : n < 16) (hk : k < 1000) (hkm : k < m) :
    Calls Yba.prog 11 #[.pointer (some ⟨B, 0, none⟩), .int .u32 v, .int .u64 nn] w fun e w' => e = .returned (.tuple #[]) ∧ Dst B0 B w w' m ones z h (V / 256) (n + nn - 8) lg dd (k + 1) (bs ++ [.int .u8 ((V % 256 : Nat) : Int)]) := by
  have g1 : w.cell? ⟨B, 1, none⟩ = some (.int .i64 m) := hB.cell 1 rfl
  have g10 : w.cell? ⟨B, 10, none⟩ = some (.slice ad k cap) := hB.cell 10 rfl
  have g11 : w.cell? ⟨B, 11, none⟩ = some (.int .u8 a) := hB.cell 11 rfl
  have g12 : w.cell? ⟨B, 12, none⟩ = some (.int .u64 n) := hB.cell 12 rfl
  obtain ⟨i0, hi, hz0, hz1, hz2⟩ := info_parts info5
  have hne := own_ne hown hB (by decide)
  go_enter Yba.func11, Yba.ntmps11
  go_wp2_with fail
  go_quiet (fail)
  go_wp2_with fail
  refine wp_loop_rounds 2 ?_
  rw [rounds_succ]
  go_wp2_with fail
  go_quiet (fail)
  go_wp2_with (at_builtin; refine wpList_append_own _ rfl _ _ 22 rfl B0 5 i0 (.int .u8 0) 1 1 Yba.underlying22 hi hz0 hz1 hz2 rfl (by decide) _ _ _ rfl ((show (w.drewN _).ownsRow B0 5 1 (.slice ad k cap) k bs from hown).alloc _) ⟨w.heap.size, 0, none⟩ 1 1 [.int .u8 ((V % 256 : Nat) : Int)] rfl rfl ?c1 ?c2 ?c3 ?c4 ?c5 ?_)
  case c1 => exact cell_one_new _ _ _
  case c2 => intro u hu; simp at hu; subst hu; rfl
  case c3 => unfold maxLen; omega
  case c4 => omega
  case c5 => have := hB.lt; simp; omega
  intro fv' w1 hown' hgrow _
  obtain ⟨ad', cap', rfl⟩ := own_shape hown'
  have hB1 : Blk w1 B 31 (dec m ones z h (.slice ad k cap) a n lg dd) := ((hB.drewN _).alloc _).grown hgrow hne
  have hb1 : Below B0 w w1 := Below.grown ((below_drewN (Below.refl _ _) _).alloc (by have := hB.lt; simp; omega) _) hgrow (by have := hB.lt; simp; omega) (fun k hk => by exact ((hown).lt k hk).1)
  have hne1 := own_ne hown' hB1 (by decide)
  have g10' : w1.cell? ⟨B, 10, none⟩ = some (.slice ad k cap) := hB1.cell 10 rfl
  have g11' : w1.cell? ⟨B, 11, none⟩ = some (.int .u8 a) := hB1.cell 11 rfl
  have g12' : w1.cell? ⟨B, 12, none⟩ = some (.int .u64 n) := hB1.cell 12 rfl
  have f10 := hB1.free 10
  have f11 := hB1.free 11
  have f12 := hB1.free 12
  clear hne g1 g10 g11 g12
  go_wp2
  rw [rounds_succ]
  go_wp2
  go_end0
  exact ⟨rfl, dst_two (w1 := w1.setCell ⟨B, 10, none⟩ (.slice ad' (k + 1) cap')) (hB1.set 10 _) (ownsRow_setCell_other hown' hne1 _) (hb1.setCell hB0 _) hB0 _ _ _ _ (by omega) (by omega)⟩
end Go.Proofs.Ybulkcvts

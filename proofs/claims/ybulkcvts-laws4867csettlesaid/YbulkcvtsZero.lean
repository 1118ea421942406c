/- 'closeFrame' and 'takeZero'. -/
import Derived.Test.YbulkcvtsWait
namespace Go.Proofs.Ybulkcvts
open Go.RowKit

theorem own_cut {w : World} {B0 k cap : Nat} {ad : Option Addr} {bs : List Value} (h : w.ownsRow B0 5 1 (.slice ad k cap) k bs) : w.ownsRow B0 5 1 (.slice ad 0 cap) 0 [] := by
  obtain ⟨hl, ⟨he, rfl⟩ | ⟨g, c, cur, he, hg, hh, hn, hc, hs, ht⟩⟩ := h
  · simp at he; obtain ⟨rfl, rfl⟩ := he; exact World.ownsRow_nil _ _ _ _
  · simp at he; obtain ⟨rfl, rfl⟩ := he
    exact ⟨rfl, .inr ⟨g, cap, cur, rfl, hg, hh, Nat.zero_le _, hc, hs, by simp⟩⟩

/-- startFrame and hunting = false, as the walk writes them. -/
theorem dst_closed {B0 B : Nat} {w w1 : World} {m : Nat} {z h : Bool} {ad : Option Addr} {cap : Nat} {a n : Nat} {lg : Bool} {dd : Int} {k : Nat} {bs : List Value}
    (hB : Blk w1 B 31 (dec m 0 z h (.slice ad k cap) a n lg dd)) (hown : w1.ownsRow B0 5 1 (.slice ad k cap) k bs) (hb : Below B0 w w1) (hB0 : B0 ≤ B) :
    Dst B0 B w ((((((w1.setCell ⟨B, 10, none⟩ (.slice ad 0 cap)).setCell ⟨B, 11, none⟩ (.int .u8 0)).setCell ⟨B, 12, none⟩ (.int .u64 0)).setCell ⟨B, 13, none⟩ (.bool false)).setCell ⟨B, 8, none⟩ (.bool false)).setCell ⟨B, 9, none⟩ (.bool false))
      m 0 false false 0 0 false dd 0 [] := by
  have hne : (Value.slice ad 0 cap).ownBlock ≠ some B := own_ne (own_cut hown) hB (by decide)
  refine ⟨ad, cap, ?_, ?_, (((((hb.setCell hB0 _).setCell hB0 _).setCell hB0 _).setCell hB0 _).setCell hB0 _).setCell hB0 _⟩
  · exact (((((hB.set 10 _).set 11 _).set 12 _).set 13 _).set 8 _).set 9 _
  · exact ownsRow_setCell_other (ownsRow_setCell_other (ownsRow_setCell_other (ownsRow_setCell_other (ownsRow_setCell_other (ownsRow_setCell_other (own_cut hown) hne _) hne _) hne _) hne _) hne _) hne _

set_option maxHeartbeats 400000 in
theorem close_none (B0 B m cap : Nat) (ad : Option Addr) (dd : Int) (z h lg : Bool) (w : World)
    (hB : Blk w B 31 (dec m 0 z h (.slice ad 0 cap) 0 0 lg dd)) (hown : w.ownsRow B0 5 1 (.slice ad 0 cap) 0 []) (hB0 : B0 ≤ B) :
    Calls Yba.prog 6 #[.pointer (some ⟨B, 0, none⟩)] w fun e w' => e = .returned (.slice none 0 0) ∧ Dst B0 B w w' m 0 false false 0 0 false dd 0 [] := by
  have g8 := hB.cell 8 rfl
  have g9 := hB.cell 9 rfl
  have g10 := hB.cell 10 rfl
  have g11 := hB.cell 11 rfl
  have g12 := hB.cell 12 rfl
  have g13 := hB.cell 13 rfl
  have f8 := hB.free 8
  have f9 := hB.free 9
  have f10 := hB.free 10
  have f11 := hB.free 11
  have f12 := hB.free 12
  have f13 := hB.free 13
  go_enter Yba.func6, Yba.ntmps6
  go_wp2
  go_end0
  go_wp2
  go_ret
  exact ⟨rfl, dst_closed hB hown (Below.refl _ _) hB0⟩

set_option maxHeartbeats 1000000 in
theorem close_disc (B0 B m a n k cap : Nat) (ad : Option Addr) (dd : Int) (z h lg : Bool) (bs : List Value) (w : World)
    (hB : Blk w B 31 (dec m 0 z h (.slice ad k cap) a n lg dd)) (hown : w.ownsRow B0 5 1 (.slice ad k cap) k bs) (hB0 : B0 ≤ B) (hn : n < 8) (hk : k < 1000)
    (hh : 0 < k ∨ 0 < n) (hl : lg = true ∨ 0 < n) :
    Calls Yba.prog 6 #[.pointer (some ⟨B, 0, none⟩)] w fun e w' => e = .returned (.slice none 0 0) ∧ Dst B0 B w w' m 0 false false 0 0 false (wrap64 (dd + 1)) 0 [] := by
  have g8 := hB.cell 8 rfl
  have g9 := hB.cell 9 rfl
  have g10 := hB.cell 10 rfl
  have g11 := hB.cell 11 rfl
  have g12 := hB.cell 12 rfl
  have g13 := hB.cell 13 rfl
  have g14 := hB.cell 14 rfl
  have f8 := hB.free 8
  have f9 := hB.free 9
  have f10 := hB.free 10
  have f11 := hB.free 11
  have f12 := hB.free 12
  have f13 := hB.free 13
  have f14 := hB.free 14
  have fin : Dst B0 B w _ m 0 false false 0 0 false (wrap64 (dd + 1)) 0 [] := dst_closed (w1 := w.setCell ⟨B, 14, none⟩ (.int .i64 (wrap64 (dd + 1)))) (hB.set 14 _) (ownsRow_setCell_other hown (own_ne hown hB (by decide)) _) ((Below.refl _ _).setCell hB0 _) hB0
  have Fin : Hid _ := fin
  clear fin
  by_cases h0 : 0 < k
  · rcases Bool.eq_false_or_eq_true lg with rfl | rfl
    · go_enter Yba.func6, Yba.ntmps6
      go_wp2
      go_end0
      go_wp2
      go_ret
      exact ⟨rfl, Fin.out⟩
    · have hn0 : 0 < n := by simpa using hl
      go_enter Yba.func6, Yba.ntmps6
      go_wp2
      go_end0
      go_wp2
      go_ret
      exact ⟨rfl, Fin.out⟩
  · have hn0 : 0 < n := by omega
    rcases Bool.eq_false_or_eq_true lg with rfl | rfl
    · go_enter Yba.func6, Yba.ntmps6
      go_wp2
      go_end0
      go_wp2
      go_ret
      exact ⟨rfl, Fin.out⟩
    · go_enter Yba.func6, Yba.ntmps6
      go_wp2
      go_end0
      go_wp2
      go_ret
      exact ⟨rfl, Fin.out⟩

set_option maxHeartbeats 400000 in
theorem clone_any (g k cap : Nat) (bs : List Value) (w : World) (h0 : 0 < k) (hk : k < 1000)
    (hown : w.ownsRow 0 5 1 (.slice (some ⟨g, 0, none⟩) k cap) k bs) (h1 : ∀ u ∈ bs, u.oneCell' = true) :
    Calls Yba.prog 9 #[.slice (some ⟨g, 0, none⟩) k cap] w fun e w' => ∃ ad' cap', e = .returned (.slice (some ad') k cap') ∧ w'.ownsRow w.heap.size 5 1 (.slice (some ad') k cap') k bs ∧ Below w.heap.size w w' := by
  obtain ⟨i0, hi, hz0, hz1, hz2⟩ := info_parts info5
  have hl : bs.length = k := by simpa using hown.1
  have hq : ∀ (w : World) (a : Option Addr) (n c n' c' : Nat), (binOp .eql 22 (.slice a n c) (.slice none n' c')).run Yba.prog w = .ok (.bool a.isNone) w := fun w a n c n' c' => Lib.run_eql_slice_nil w _ _ a n c n' c' Yba.underlying22
  have HL : Hid (bs.length = k) := hl
  clear hl
  go_enter Yba.func9, Yba.ntmps9
  go_wp2_with (at_builtin; refine wpList_append_own _ rfl _ _ 22 rfl w.heap.size 5 i0 (.int .u8 0) 1 1 Yba.underlying22 hi hz0 hz1 hz2 rfl (by decide) _ 0 [] rfl ?c0 ⟨g, 0, none⟩ k cap bs rfl ?c6 ?c1 h1 ?c3 ?c4 ?c5 ?_)
  case c0 => exact World.ownsRow_lit w #[] 0 (Nat.le_refl _) (by unfold maxLen; omega) rfl
  case c6 => simpa using HL.out
  case c1 =>
    intro j u hj
    exact (hown.alloc (.cells #[] 5)).cells (g := g) rfl j u hj
  case c3 => unfold maxLen; omega
  case c4 => omega
  case c5 => simp
  intro v' w1 hown' hgrow hnil
  obtain ⟨ad', cap', rfl⟩ := own_shape hown'
  obtain ⟨ad', rfl⟩ : ∃ x, ad' = some x := by
    cases ad' with
    | some x => exact ⟨x, rfl⟩
    | none =>
      exfalso
      obtain ⟨_, ⟨he, hz⟩ | ⟨g, c, cur, he, _⟩⟩ := hown'
      · omega
      · simp at he
  have hb : Below w.heap.size w w1 := Below.grown ((Below.refl _ _).alloc (Nat.le_refl _) _) hgrow (by simp) (fun k hk => by simp [Value.ownBlock] at hk; omega)
  have hown2 : w1.ownsRow w.heap.size 5 1 (.slice (some ad') k cap') k bs := by simpa using hown'
  clear hgrow hnil hown'
  go_wp2
  go_ret
  exact ⟨ad', cap', by simp, hown2, hb⟩

theorem own_some {w : World} {B0 k cap : Nat} {ad : Option Addr} {bs : List Value} (h : w.ownsRow B0 5 1 (.slice ad k cap) k bs) (h0 : 0 < k) : ∃ g, ad = some ⟨g, 0, none⟩ := by
  obtain ⟨_, ⟨he, hz⟩ | ⟨g, c, cur, he, _⟩⟩ := h
  · omega
  · simp at he; exact ⟨g, he.1⟩
theorem own_any {w : World} {B0 k : Nat} {v : Value} {bs : List Value} (h : w.ownsRow B0 5 1 v k bs) : w.ownsRow 0 5 1 v k bs := by
  obtain ⟨hl, h | ⟨g, c, cur, he, hg, hr⟩⟩ := h
  · exact ⟨hl, .inl h⟩
  · exact ⟨hl, .inr ⟨g, c, cur, he, Nat.zero_le _, hr⟩⟩
theorem own_base {w : World} {B0 B1 k : Nat} {v : Value} {bs : List Value} (h : w.ownsRow B1 5 1 v k bs) (hb : B0 ≤ B1) : w.ownsRow B0 5 1 v k bs := by
  obtain ⟨hl, h | ⟨g, c, cur, he, hg, hr⟩⟩ := h
  · exact ⟨hl, .inl h⟩
  · exact ⟨hl, .inr ⟨g, c, cur, he, Nat.le_trans hb hg, hr⟩⟩
theorem own_later {w w1 : World} {B0 k : Nat} {v : Value} {bs : List Value} (h : w.ownsRow B0 5 1 v k bs) (hb : Below w.heap.size w w1) : w1.ownsRow B0 5 1 v k bs := by
  obtain ⟨hl, h | ⟨g, c, cur, he, hg, hh, hr⟩⟩ := h
  · exact ⟨hl, .inl h⟩
  · exact ⟨hl, .inr ⟨g, c, cur, he, hg, by rw [hb.block g (lt_of_block hh)]; exact hh, hr⟩⟩

set_option maxHeartbeats 1000000 in
theorem close_some (B0 B m k cap : Nat) (ad : Option Addr) (dd : Int) (z h : Bool) (bs : List Value) (w : World)
    (hB : Blk w B 31 (dec m 0 z h (.slice ad k cap) 0 0 false dd)) (hown : w.ownsRow B0 5 1 (.slice ad k cap) k bs) (hB0 : B0 ≤ B) (hk : k < 1000) (h0 : 0 < k) (h1 : ∀ u ∈ bs, u.oneCell' = true) :
    Calls Yba.prog 6 #[.pointer (some ⟨B, 0, none⟩)] w fun e w' => ∃ ad' cap', e = .returned (.slice (some ad') k cap') ∧ w'.ownsRow B0 5 1 (.slice (some ad') k cap') k bs ∧ Dst B0 B w w' m 0 false false 0 0 false dd 0 [] := by
  obtain ⟨g, rfl⟩ := own_some hown h0
  have g8 := hB.cell 8 rfl
  have g9 := hB.cell 9 rfl
  have g10 := hB.cell 10 rfl
  have g11 := hB.cell 11 rfl
  have g12 := hB.cell 12 rfl
  have g13 := hB.cell 13 rfl
  go_enter Yba.func6, Yba.ntmps6
  go_wp2_with (first | (go_at_call 9; refine (clone_any g k cap bs w h0 hk (own_any hown) h1).mono ?_) | (go_at_call 8; go_in))
  rintro e w1 ⟨ad', cap', rfl, hownc, hb⟩
  have hB1 : Blk w1 B 31 _ := hB.below hb hB.lt
  have hown1 := own_later hown hb
  have hbb : Below B0 w w1 := hb.mono (by have := hB.lt; omega)
  have hne : (Value.slice (some ad') k cap').ownBlock ≠ some B := own_ne hownc hB1 (by decide)
  have hownc' := own_base hownc (show B0 ≤ w.heap.size by have := hB.lt; omega)
  clear g8 g9 g10 g11 g12 g13
  have g8 := hB1.cell 8 rfl
  have g9 := hB1.cell 9 rfl
  have g10 := hB1.cell 10 rfl
  have g11 := hB1.cell 11 rfl
  have g12 := hB1.cell 12 rfl
  have g13 := hB1.cell 13 rfl
  have f8 := hB1.free 8
  have f9 := hB1.free 9
  have f10 := hB1.free 10
  have f11 := hB1.free 11
  have f12 := hB1.free 12
  have f13 := hB1.free 13
  go_wp2
  go_end0
  go_wp2
  go_ret
  exact ⟨ad', cap', rfl, ownsRow_setCell_other (ownsRow_setCell_other (ownsRow_setCell_other (ownsRow_setCell_other (ownsRow_setCell_other (ownsRow_setCell_other hownc' hne _) hne _) hne _) hne _) hne _) hne _, dst_closed hB1 hown1 hbb hB0⟩
end Go.Proofs.Ybulkcvts

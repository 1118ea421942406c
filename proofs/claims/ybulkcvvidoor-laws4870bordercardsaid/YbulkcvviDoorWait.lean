/- 'appendWait': the wait line behind what 'out' holds. -/
import Derived.Test.YbulkcvviDoorLine
namespace Go.Proofs.YbulkcvviDoor
open Go.RowKit

theorem own_next {w0 w w' : World} {B n : Nat} {v : Value} {xs : List Value} (h : w.ownsRow B 5 1 v n xs) (hb : Below B w0 w) (hk : Lib.OthersKept 5 none w0 w) (hB : B ≤ w.heap.size) (hg : w.grownBy w' v.ownBlock) : Below B w0 w' ∧ B ≤ w'.heap.size ∧ Lib.OthersKept 5 none w0 w' := by
  refine ⟨hb.grown hg hB (fun k hk => (h.lt k hk).1), by have := hg.size; omega, hk.grown hg (fun g hgg => ?_)⟩
  obtain ⟨_, ⟨rfl, _⟩ | ⟨g', c, cur, rfl, _, hh, _⟩⟩ := h
  · simp [Value.ownBlock] at hgg
  · simp [Value.ownBlock] at hgg; subst hgg; exact ⟨_, _, hh⟩

theorem why0 (w : World) : Calls Ybad.prog 27 #[.int .i64 0] w fun e w' => e = .returned (.string ⟨#[110, 111, 32, 119, 97, 105, 116]⟩) ∧ w = w' := by
  go_enter Ybad.func27, Ybad.ntmps27
  go_wp2
  go_ret
  exact ⟨rfl, rfl⟩
theorem why2 (w : World) : Calls Ybad.prog 27 #[.int .i64 2] w fun e w' => e = .returned (.string ⟨#[108, 111, 99, 107, 32, 111, 110]⟩) ∧ w = w' := by
  go_enter Ybad.func27, Ybad.ntmps27
  go_wp2
  go_ret
  exact ⟨rfl, rfl⟩
def whyI (lk : Bool) : Int := if lk then 2 else 0

set_option maxRecDepth 100000 in
set_option maxHeartbeats 1000000 in
theorem wait_any (B n : Nat) (sv : Value) (xs : List Value) (s : ByteArray) (lk : Bool) (v : Int) (w : World) (hown : w.ownsRow B 5 1 sv n xs) (hB : B ≤ w.heap.size) (hn : n ≤ 1000000) (hs : s.size ≤ 1024) (h0 : -9223372036854775808 ≤ v) (h1 : v ≤ 9223372036854775807)
    (htab : Lib.TabBelow Ybad.prog B w Ybad.tabN .u64 Lib.pow10Tab) :
    Calls Ybad.prog 13 #[sv, .string s, .int .i64 (whyI lk), .int .i64 v] w fun e w' => ∃ ad cap, e = .returned (.slice ad (n + (lineL s lk v).length) cap) ∧ w'.ownsRow B 5 1 (.slice ad (n + (lineL s lk v).length) cap) (n + (lineL s lk v).length) (xs ++ Lib.byteCells (lineL s lk v)) ∧ Below B w w' ∧ Lib.OthersKept 5 none w w' := by
  obtain ⟨i0, hi, hz0, hz1, hz2⟩ := info_parts info5
  have hlen := Lib.itoa_length_le v h0 h1
  have HI : Hid ((Go.Lib.itoa v).length ≤ 21) := hlen
  clear hlen
  cases lk with
  | true =>
    show Calls Ybad.prog 13 #[sv, .string s, .int .i64 2, .int .i64 v] w _
    go_enter Ybad.func13, Ybad.ntmps13
    go_wp2_with (at_builtin; refine Lib.wpList_append_own_string _ rfl (.tmp 9) _ 22 9 rfl B 5 i0 Ybad.underlying22 Ybad.underlying9 hi hz0 hz1 hz2 _ _ _ rfl hown _ rfl ?a1 ?b1 hB ?_)
    case a1 => show n + s.size ≤ maxLen; unfold maxLen; omega
    case b1 => show n + s.size ≤ 140737488355328; omega
    intro v1 w1 hO1 hg1 _
    obtain ⟨hb1, hzz1, hk1⟩ := own_next hown (Below.refl _ _) (Lib.OthersKept.refl _ _ _) hB hg1
    clear hg1
    go_wp2_with (at_builtin; refine Lib.wpList_append_own_string _ rfl (.tmp 12) _ 22 9 rfl B 5 i0 Ybad.underlying22 Ybad.underlying9 hi hz0 hz1 hz2 _ _ _ rfl hO1 _ rfl ?a2 ?b2 hzz1 ?_)
    case a2 => show n + s.size + 8 ≤ maxLen; unfold maxLen; omega
    case b2 => show n + s.size + 8 ≤ 140737488355328; omega
    intro v2 w2 hO2 hg2 _
    obtain ⟨hb2, hzz2, hk2⟩ := own_next hO1 hb1 hk1 hzz1 hg2
    clear hg2
    go_wp2_with (first | (go_at_call 27; refine (why2 _).mono ?_; rintro e wx ⟨rfl, rfl⟩) | (at_builtin; refine Lib.wpList_append_own_string _ rfl (.tmp 14) _ 22 9 rfl B 5 i0 Ybad.underlying22 Ybad.underlying9 hi hz0 hz1 hz2 _ _ _ rfl hO2 _ rfl ?a3 ?b3 hzz2 ?_))
    case a3 => show n + s.size + 8 + 7 ≤ maxLen; unfold maxLen; omega
    case b3 => show n + s.size + 8 + 7 ≤ 140737488355328; omega
    intro v3 w3 hO3 hg3 _
    obtain ⟨hb3, hz3, hk3⟩ := own_next hO2 hb2 hk2 hzz2 hg3
    clear hg3
    go_wp2_with (at_builtin; refine Lib.wpList_append_own_string _ rfl (.tmp 18) _ 22 9 rfl B 5 i0 Ybad.underlying22 Ybad.underlying9 hi hz0 hz1 hz2 _ _ _ rfl hO3 _ rfl ?a4 ?b4 hz3 ?_)
    case a4 => show n + s.size + 8 + 7 + 2 ≤ maxLen; unfold maxLen; omega
    case b4 => show n + s.size + 8 + 7 + 2 ≤ 140737488355328; omega
    intro v4 w4 hO4 hg4 _
    obtain ⟨hb4, hz4, hk4⟩ := own_next hO3 hb3 hk3 hz3 hg4
    clear hg4
    go_wp2_with (go_at_call 28; refine (Ybad.strconv_AppendInt_10 B _ v h0 h1 _ _ _ hO4 hz4 ?a5 (htab.on hb4)).mono ?_)
    case a5 => show n + s.size + 8 + 7 + 2 + 21 ≤ 140737488355328; omega
    rintro e w5 ⟨v5, rfl, hO5, hb5', hk5'⟩
    have hb5 := hb4.trans hb5'
    have hk5 := hk4.trans hk5'
    have hz5 : B ≤ w5.heap.size := Nat.le_trans hB hb5.size
    clear hb5' hk5'
    go_wp2_with (at_builtin; refine wpList_append_own _ rfl (.tmp 23) _ 22 rfl B 5 i0 (.int .u8 0) 1 1 Ybad.underlying22 hi hz0 hz1 hz2 rfl (by decide) _ _ _ rfl (hO5.alloc _) ⟨w5.heap.size, 0, none⟩ 1 1 [.int .u8 10] rfl rfl (cell_one_new _ _ _) ?a6 ?b6 ?c6 ?d6 ?_)
    case a6 => intro u hu; simp at hu; subst hu; rfl
    case b6 => show n + s.size + 8 + 7 + 2 + _ + 1 ≤ maxLen; unfold maxLen; have := HI.out; omega
    case c6 => show (n + s.size + 8 + 7 + 2 + _ + 1) * 1 ≤ 140737488355328; have := HI.out; omega
    case d6 => simp; omega
    intro v6 w6 hO6 hg6 _
    obtain ⟨hb6, hz6, hk6⟩ := own_next (hO5.alloc _) (hb5.alloc hz5 _) (hk5.alloc _) (by simp; omega) hg6
    have hO7 : w6.ownsRow B 5 1 v6 (n + (lineL s true v).length) (xs ++ Lib.byteCells (lineL s true v)) := by
      have e1 : n + (lineL s true v).length = n + s.size + 8 + 7 + 2 + (Lib.itoa v).length + 1 := by simp [lineL, waitsS, lockS]; omega
      rw [e1]; simpa [lineL, Lib.byteCells, Lib.strCells, waitsS, lockS] using hO6
    obtain ⟨ad6, cap6, rfl⟩ := own_shape hO7
    clear hg6 hO6 hO5
    go_wp2
    go_ret
    exact ⟨ad6, cap6, by simp, hO7, hb6, hk6⟩
  | false =>
    show Calls Ybad.prog 13 #[sv, .string s, .int .i64 0, .int .i64 v] w _
    go_enter Ybad.func13, Ybad.ntmps13
    go_wp2_with (at_builtin; refine Lib.wpList_append_own_string _ rfl (.tmp 9) _ 22 9 rfl B 5 i0 Ybad.underlying22 Ybad.underlying9 hi hz0 hz1 hz2 _ _ _ rfl hown _ rfl ?a1 ?b1 hB ?_)
    case a1 => show n + s.size ≤ maxLen; unfold maxLen; omega
    case b1 => show n + s.size ≤ 140737488355328; omega
    intro v1 w1 hO1 hg1 _
    obtain ⟨hb1, hzz1, hk1⟩ := own_next hown (Below.refl _ _) (Lib.OthersKept.refl _ _ _) hB hg1
    clear hg1
    go_wp2_with (at_builtin; refine Lib.wpList_append_own_string _ rfl (.tmp 12) _ 22 9 rfl B 5 i0 Ybad.underlying22 Ybad.underlying9 hi hz0 hz1 hz2 _ _ _ rfl hO1 _ rfl ?a2 ?b2 hzz1 ?_)
    case a2 => show n + s.size + 8 ≤ maxLen; unfold maxLen; omega
    case b2 => show n + s.size + 8 ≤ 140737488355328; omega
    intro v2 w2 hO2 hg2 _
    obtain ⟨hb2, hzz2, hk2⟩ := own_next hO1 hb1 hk1 hzz1 hg2
    clear hg2
    go_wp2_with (first | (go_at_call 27; refine (why0 _).mono ?_; rintro e wx ⟨rfl, rfl⟩) | (at_builtin; refine Lib.wpList_append_own_string _ rfl (.tmp 14) _ 22 9 rfl B 5 i0 Ybad.underlying22 Ybad.underlying9 hi hz0 hz1 hz2 _ _ _ rfl hO2 _ rfl ?a3 ?b3 hzz2 ?_))
    case a3 => show n + s.size + 8 + 7 ≤ maxLen; unfold maxLen; omega
    case b3 => show n + s.size + 8 + 7 ≤ 140737488355328; omega
    intro v3 w3 hO3 hg3 _
    obtain ⟨hb3, hz3, hk3⟩ := own_next hO2 hb2 hk2 hzz2 hg3
    clear hg3
    go_wp2_with (at_builtin; refine Lib.wpList_append_own_string _ rfl (.tmp 18) _ 22 9 rfl B 5 i0 Ybad.underlying22 Ybad.underlying9 hi hz0 hz1 hz2 _ _ _ rfl hO3 _ rfl ?a4 ?b4 hz3 ?_)
    case a4 => show n + s.size + 8 + 7 + 2 ≤ maxLen; unfold maxLen; omega
    case b4 => show n + s.size + 8 + 7 + 2 ≤ 140737488355328; omega
    intro v4 w4 hO4 hg4 _
    obtain ⟨hb4, hz4, hk4⟩ := own_next hO3 hb3 hk3 hz3 hg4
    clear hg4
    go_wp2_with (go_at_call 28; refine (Ybad.strconv_AppendInt_10 B _ v h0 h1 _ _ _ hO4 hz4 ?a5 (htab.on hb4)).mono ?_)
    case a5 => show n + s.size + 8 + 7 + 2 + 21 ≤ 140737488355328; omega
    rintro e w5 ⟨v5, rfl, hO5, hb5', hk5'⟩
    have hb5 := hb4.trans hb5'
    have hk5 := hk4.trans hk5'
    have hz5 : B ≤ w5.heap.size := Nat.le_trans hB hb5.size
    clear hb5' hk5'
    go_wp2_with (at_builtin; refine wpList_append_own _ rfl (.tmp 23) _ 22 rfl B 5 i0 (.int .u8 0) 1 1 Ybad.underlying22 hi hz0 hz1 hz2 rfl (by decide) _ _ _ rfl (hO5.alloc _) ⟨w5.heap.size, 0, none⟩ 1 1 [.int .u8 10] rfl rfl (cell_one_new _ _ _) ?a6 ?b6 ?c6 ?d6 ?_)
    case a6 => intro u hu; simp at hu; subst hu; rfl
    case b6 => show n + s.size + 8 + 7 + 2 + _ + 1 ≤ maxLen; unfold maxLen; have := HI.out; omega
    case c6 => show (n + s.size + 8 + 7 + 2 + _ + 1) * 1 ≤ 140737488355328; have := HI.out; omega
    case d6 => simp; omega
    intro v6 w6 hO6 hg6 _
    obtain ⟨hb6, hz6, hk6⟩ := own_next (hO5.alloc _) (hb5.alloc hz5 _) (hk5.alloc _) (by simp; omega) hg6
    have hO7 : w6.ownsRow B 5 1 v6 (n + (lineL s false v).length) (xs ++ Lib.byteCells (lineL s false v)) := by
      have e1 : n + (lineL s false v).length = n + s.size + 8 + 7 + 2 + (Lib.itoa v).length + 1 := by simp [lineL, waitsS, noS]; omega
      rw [e1]; simpa [lineL, Lib.byteCells, Lib.strCells, waitsS, noS] using hO6
    obtain ⟨ad6, cap6, rfl⟩ := own_shape hO7
    clear hg6 hO6 hO5
    go_wp2
    go_ret
    exact ⟨ad6, cap6, by simp, hO7, hb6, hk6⟩
end Go.Proofs.YbulkcvviDoor

/- 'appendWait', with the exact frame. -/
import Derived.Test.YbulkcvviDoorWait
import Derived.Test.YbulkcvviDoorNum
namespace Go.Proofs.YbulkcvviDoor
open Go.RowKit

set_option maxRecDepth 100000 in
set_option maxHeartbeats 1000000 in
theorem waitG (B n : Nat) (sv : Value) (xs : List Value) (s : ByteArray) (lk : Bool) (v : Int) (w : World) (hown : w.ownsRow B 5 1 sv n xs) (hB : B ≤ w.heap.size) (hn : n ≤ 1000000) (hs : s.size ≤ 1024) (h0 : -9223372036854775808 ≤ v) (h1 : v ≤ 9223372036854775807)
    (htab : Lib.TabBelow Ybad.prog B w Ybad.tabN .u64 Lib.pow10Tab) :
    Calls Ybad.prog 13 #[sv, .string s, .int .i64 (whyI lk), .int .i64 v] w fun e w' => ∃ ad cap, e = .returned (.slice ad (n + (lineL s lk v).length) cap) ∧ w'.ownsRow B 5 1 (.slice ad (n + (lineL s lk v).length) cap) (n + (lineL s lk v).length) (xs ++ Lib.byteCells (lineL s lk v)) ∧ Grew sv (.slice ad (n + (lineL s lk v).length) cap) w w' := by
  have hlen := Lib.itoa_length_le v h0 h1
  have HI : Hid ((Go.Lib.itoa v).length ≤ 21) := hlen
  have HT : Hid (Lib.TabBelow Ybad.prog B w Ybad.tabN .u64 Lib.pow10Tab) := htab
  clear hlen htab
  cases lk with
  | true =>
    show Calls Ybad.prog 13 #[sv, .string s, .int .i64 2, .int .i64 v] w _
    go_enter Ybad.func13, Ybad.ntmps13
    go_wp2_with (at_builtin; refine wpList_str_at rfl (.tmp 9) _ rfl B _ _ _ rfl hown _ rfl ?a1 ?b1 hB ?_)
    case a1 => show n + s.size ≤ maxLen; unfold maxLen; omega
    case b1 => show n + s.size ≤ 140737488355328; omega
    intro v1 w1 hO1 hG1
    have hz1 : B ≤ w1.heap.size := Nat.le_trans hB hG1.by'.size
    go_wp2_with (at_builtin; refine wpList_str_at rfl (.tmp 12) _ rfl B _ _ _ rfl hO1 _ rfl ?a2 ?b2 hz1 ?_)
    case a2 => show n + s.size + 8 ≤ maxLen; unfold maxLen; omega
    case b2 => show n + s.size + 8 ≤ 140737488355328; omega
    intro v2 w2 hO2 hg2
    have hG2 := hG1.trans hg2
    have hz2 : B ≤ w2.heap.size := Nat.le_trans hB hG2.by'.size
    clear hg2 hG1
    go_wp2_with (first | (go_at_call 27; refine (why2 _).mono ?_; rintro e wx ⟨rfl, rfl⟩) | (at_builtin; refine wpList_str_at rfl (.tmp 14) _ rfl B _ _ _ rfl hO2 _ rfl ?a3 ?b3 hz2 ?_))
    case a3 => show n + s.size + 8 + 7 ≤ maxLen; unfold maxLen; omega
    case b3 => show n + s.size + 8 + 7 ≤ 140737488355328; omega
    intro v3 w3 hO3 hg3
    have hG3 := hG2.trans hg3
    have hz3 : B ≤ w3.heap.size := Nat.le_trans hB hG3.by'.size
    clear hg3 hG2
    go_wp2_with (at_builtin; refine wpList_str_at rfl (.tmp 18) _ rfl B _ _ _ rfl hO3 _ rfl ?a4 ?b4 hz3 ?_)
    case a4 => show n + s.size + 8 + 7 + 2 ≤ maxLen; unfold maxLen; omega
    case b4 => show n + s.size + 8 + 7 + 2 ≤ 140737488355328; omega
    intro v4 w4 hO4 hg4
    have hG4 := hG3.trans hg4
    have hz4 : B ≤ w4.heap.size := Nat.le_trans hB hG4.by'.size
    have hb4 := hG4.below hown hB
    clear hg4 hG3
    go_wp2_with (go_at_call 28; refine (aint28 B _ v h0 h1 _ _ _ hO4 hz4 ?a5 (HT.out.on hb4)).mono ?_)
    case a5 => show n + s.size + 8 + 7 + 2 + 21 ≤ 140737488355328; omega
    rintro e w5 ⟨v5, rfl, hO5, hg5⟩
    have hG5 := hG4.trans hg5
    have hz5 : B ≤ w5.heap.size := Nat.le_trans hB hG5.by'.size
    clear hg5 hG4 hb4
    go_wp2_with (at_builtin; refine wpList_sl_at rfl (.tmp 23) _ rfl B _ _ _ rfl (hO5.alloc _) ⟨w5.heap.size, 0, none⟩ 1 1 [.int .u8 10] rfl rfl (cell_one_new _ _ _) ?a6 ?b6 ?c6 ?d6 ?_)
    case a6 => intro u hu; simp at hu; subst hu; rfl
    case b6 => show n + s.size + 8 + 7 + 2 + _ + 1 ≤ maxLen; unfold maxLen; have := HI.out; omega
    case c6 => show n + s.size + 8 + 7 + 2 + _ + 1 ≤ 140737488355328; have := HI.out; omega
    case d6 => simp; omega
    intro v6 w6 hO6 hg6
    have hG6 := (hG5.alloc _).trans hg6
    have hO7 : w6.ownsRow B 5 1 v6 (n + (lineL s true v).length) (xs ++ Lib.byteCells (lineL s true v)) := by
      have e1 : n + (lineL s true v).length = n + s.size + 8 + 7 + 2 + (Lib.itoa v).length + 1 := by simp [lineL, waitsS, lockS]; omega
      rw [e1]; simpa [lineL, Lib.byteCells, Lib.strCells, waitsS, lockS] using hO6
    obtain ⟨ad6, cap6, rfl⟩ := own_shape hO7
    clear hg6 hO6 hO5 hG5
    go_wp2
    go_ret
    exact ⟨ad6, cap6, by simp, hO7, hG6⟩
  | false =>
    show Calls Ybad.prog 13 #[sv, .string s, .int .i64 0, .int .i64 v] w _
    go_enter Ybad.func13, Ybad.ntmps13
    go_wp2_with (at_builtin; refine wpList_str_at rfl (.tmp 9) _ rfl B _ _ _ rfl hown _ rfl ?a1 ?b1 hB ?_)
    case a1 => show n + s.size ≤ maxLen; unfold maxLen; omega
    case b1 => show n + s.size ≤ 140737488355328; omega
    intro v1 w1 hO1 hG1
    have hz1 : B ≤ w1.heap.size := Nat.le_trans hB hG1.by'.size
    go_wp2_with (at_builtin; refine wpList_str_at rfl (.tmp 12) _ rfl B _ _ _ rfl hO1 _ rfl ?a2 ?b2 hz1 ?_)
    case a2 => show n + s.size + 8 ≤ maxLen; unfold maxLen; omega
    case b2 => show n + s.size + 8 ≤ 140737488355328; omega
    intro v2 w2 hO2 hg2
    have hG2 := hG1.trans hg2
    have hz2 : B ≤ w2.heap.size := Nat.le_trans hB hG2.by'.size
    clear hg2 hG1
    go_wp2_with (first | (go_at_call 27; refine (why0 _).mono ?_; rintro e wx ⟨rfl, rfl⟩) | (at_builtin; refine wpList_str_at rfl (.tmp 14) _ rfl B _ _ _ rfl hO2 _ rfl ?a3 ?b3 hz2 ?_))
    case a3 => show n + s.size + 8 + 7 ≤ maxLen; unfold maxLen; omega
    case b3 => show n + s.size + 8 + 7 ≤ 140737488355328; omega
    intro v3 w3 hO3 hg3
    have hG3 := hG2.trans hg3
    have hz3 : B ≤ w3.heap.size := Nat.le_trans hB hG3.by'.size
    clear hg3 hG2
    go_wp2_with (at_builtin; refine wpList_str_at rfl (.tmp 18) _ rfl B _ _ _ rfl hO3 _ rfl ?a4 ?b4 hz3 ?_)
    case a4 => show n + s.size + 8 + 7 + 2 ≤ maxLen; unfold maxLen; omega
    case b4 => show n + s.size + 8 + 7 + 2 ≤ 140737488355328; omega
    intro v4 w4 hO4 hg4
    have hG4 := hG3.trans hg4
    have hz4 : B ≤ w4.heap.size := Nat.le_trans hB hG4.by'.size
    have hb4 := hG4.below hown hB
    clear hg4 hG3
    go_wp2_with (go_at_call 28; refine (aint28 B _ v h0 h1 _ _ _ hO4 hz4 ?a5 (HT.out.on hb4)).mono ?_)
    case a5 => show n + s.size + 8 + 7 + 2 + 21 ≤ 140737488355328; omega
    rintro e w5 ⟨v5, rfl, hO5, hg5⟩
    have hG5 := hG4.trans hg5
    have hz5 : B ≤ w5.heap.size := Nat.le_trans hB hG5.by'.size
    clear hg5 hG4 hb4
    go_wp2_with (at_builtin; refine wpList_sl_at rfl (.tmp 23) _ rfl B _ _ _ rfl (hO5.alloc _) ⟨w5.heap.size, 0, none⟩ 1 1 [.int .u8 10] rfl rfl (cell_one_new _ _ _) ?a6 ?b6 ?c6 ?d6 ?_)
    case a6 => intro u hu; simp at hu; subst hu; rfl
    case b6 => show n + s.size + 8 + 7 + 2 + _ + 1 ≤ maxLen; unfold maxLen; have := HI.out; omega
    case c6 => show n + s.size + 8 + 7 + 2 + _ + 1 ≤ 140737488355328; have := HI.out; omega
    case d6 => simp; omega
    intro v6 w6 hO6 hg6
    have hG6 := (hG5.alloc _).trans hg6
    have hO7 : w6.ownsRow B 5 1 v6 (n + (lineL s false v).length) (xs ++ Lib.byteCells (lineL s false v)) := by
      have e1 : n + (lineL s false v).length = n + s.size + 8 + 7 + 2 + (Lib.itoa v).length + 1 := by simp [lineL, waitsS, noS]; omega
      rw [e1]; simpa [lineL, Lib.byteCells, Lib.strCells, waitsS, noS] using hO6
    obtain ⟨ad6, cap6, rfl⟩ := own_shape hO7
    clear hg6 hO6 hO5 hG5
    go_wp2
    go_ret
    exact ⟨ad6, cap6, by simp, hO7, hG6⟩
end Go.Proofs.YbulkcvviDoor

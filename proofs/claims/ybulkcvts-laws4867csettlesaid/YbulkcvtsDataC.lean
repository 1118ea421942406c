/- The law's walk: the bits are data. -/
import Derived.Test.YbulkcvtsPb
import Derived.Deep.QuietTactic
import Derived.BigQuiet
namespace Go.Proofs.Ybulkcvts
open Go.RowKit
set_option linter.unusedVariables false

set_option maxRecDepth 100000 in
set_option maxHeartbeats 2000000 in
theorem data_C (a0 : Option Addr) (len0 cap0 A1 A2 A3 A7 m n o a : Nat) (xs : List Int) (a4 a5 a6 : Bool) (a8 : Int) (w : World) (hl : len0 ≤ 1024) (hkm : m < len0) (hkc : len0 ≤ cap0)
   (h1 : A1 < 256) (h2 : A2 < 256) (h3 : A3 < 256) (h7 : A7 < 65536)
   (hm : (A7 : Int) % 80 = m) (hn : (A2 : Int) % 8 = n) (ho : (A3 : Int) % 8 = o) (hm' : m < 80) (hn' : n < 8) (ho' : o < 8) (hA : bits .and .u8 (A1 : Int) ((2 ^ n - 1) % 256) = (a : Int)) (ha : a < 2 ^ n) (ha256 : a < 256)
   (hsrc : Src w a0 m cap0 xs) (h5 : a5 = false) (h4 : a4 = true) (ho5 : o ≤ 5) :
    Calls Yba.prog 3 #[.slice a0 len0 cap0, .int .u8 A1, .int .u8 A2, .int .u8 A3, .bool a4, .bool a5, .bool a6, .int .u16 A7, .int .i64 a8] w fun e w' => e = .returned (.bool true) ∧ Below w.heap.size w w' := by
  obtain ⟨i0, hi, hz0, hz1, hz2⟩ := info_parts info5
  have hk80 : m < 80 := by omega
  have hq : ∀ (w : World) (a : Option Addr) (n c n' c' : Nat), (binOp .eql 22 (.slice a n c) (.slice none n' c')).run Yba.prog w = .ok (.bool a.isNone) w := fun w a n c n' c' => Lib.run_eql_slice_nil w _ _ a n c n' c' Yba.underlying22
  have hqn : ∀ (w : World) (a : Option Addr) (n c n' c' : Nat), (binOp .neq 22 (.slice a n c) (.slice none n' c')).run Yba.prog w = .ok (.bool !a.isNone) w := fun w a n c n' c' => run_neq_slice_nil_any w _ _ a n c n' c' Yba.underlying22
  obtain ⟨cur, hcur⟩ : ∃ cur : List Value, cur = (madeCells #[Value.int .u8 0] m).toList := ⟨_, rfl⟩
  have hcurl : cur.length = m := by rw [hcur]; simp [madeCells]
  have HC : Hid (cur = _) := hcur
  have HCL : Hid (cur.length = m) := hcurl
  clear hcur hcurl
  have HX : Hid (xs.length = m) := hsrc.len
  subst h5
  subst h4
  have ho6 : ((o : Int) == 6) = false := by simp; omega
  have ho7 : ((o : Int) == 7) = false := by simp; omega
  go_enter Yba.func3, Yba.ntmps3
  go_wp2_with (at_make; refine wpList_make_full _ rfl _ _ 22 rfl w.heap.size 5 i0 (.int .u8 0) 1 Yba.underlying22 hi hz0 hz1 .i64 .i64 _ _ m rfl rfl (by omega) (by omega) ?b2 ?b3 (Nat.le_refl _) ?_)
  case b2 => first | (rw [hz2]; omega) | omega
  case b3 => unfold maxLen; omega
  intro w1 hown1 hgrow1
  have hb1 : Below w.heap.size w w1 := (Below.refl _ _).grown hgrow1 (Nat.le_refl _) (fun _ h => by cases h)
  have hg1 : w1.heap[w.heap.size]? = some (.cells cur.toArray 5 (0, 0)) := by rw [HC.out]; exact made_block hown1
  clear hown1 hgrow1
  go_wp2_with (refine wpList_copy_splice rfl (.tmp 71) (.tmp 72) 22 22 rfl 5 Yba.underlying22 (by rw [hi]; simp [hz1]) _ _ _ _ _ _ rfl rfl w.heap.size 0 cur 5 hg1 (xs.map (Value.int .u8)) ?d1 ?d2 ?d3 (ints_oneCell _ _) w.heap.size w hb1 (Nat.le_refl _) ?_)
  case d1 => rw [List.length_map, HX.out]; simp only [Nat.min_def]; split <;> omega
  case d2 => intro hp; obtain ⟨ad, e1, e2⟩ := hsrc.cells _ hb1 (by simpa [HX.out] using hp); exact ⟨ad, e1, fun j v hj => e2 j _ (by simp [hj])⟩
  case d3 => rw [List.length_map, HX.out, HCL.out]; omega
  intro w2 hg2 hb2
  clear hg1 hb1
  obtain ⟨hBk, hOw, hBe, hSz⟩ := built (m := m) (n := n) (a := a) (o := o) (z := true) (h := false) (lg := a6) (dd := a8) hg2 hb2 HCL.out HX.out (by omega) (dec m o true false (.slice (some ⟨w.heap.size, 0, none⟩) m m) a n a6 a8).toArray (by simp)
  go_wp2_with fail
  refine (take_data w.heap.size w2.heap.size m a n m m (some ⟨w.heap.size, 0, none⟩) a8 true a6 (xs.map (Value.int .u8)) _ o hBk hOw hSz ho5 ha hn' (by omega)).mono ?_
  clear hBk hOw
  rintro e w3 ⟨rfl, ad, cap, hB, hown, hb⟩
  have hb3 : Below w.heap.size w w3 := hBe.trans hb
  obtain ⟨A', N', L', KK, BS, HE, hB, hown⟩ : ∃ A' N' L' KK BS, Hid (A' = kA (a + (2 ^ o - 1) * 2 ^ (n + 1)) (n + 1 + o) ∧ N' = kN (n + 1 + o) ∧ L' = kL (n + 1 + o) m m a6 ∧ KK = kK (n + 1 + o) m m ∧ BS = kB (a + (2 ^ o - 1) * 2 ^ (n + 1)) (n + 1 + o) m m (xs.map (Value.int .u8))) ∧
      Blk w3 w2.heap.size 31 (dec m 0 (!((o : Int) == 5)) false (.slice ad KK cap) A' N' L' a8) ∧ w3.ownsRow w.heap.size 5 1 (.slice ad KK cap) KK BS := ⟨_, _, _, _, _, ⟨rfl, rfl, rfl, rfl, rfl⟩, hB, hown⟩
  clear hb hBe hg2 hb2
  have g0 := hB.cell 0 rfl
  have g1 := hB.cell 1 rfl
  have g4 := hB.cell 4 rfl
  have g5 := hB.cell 5 rfl
  have g7 := hB.cell 7 rfl
  have g9 := hB.cell 9 rfl
  have g14 := hB.cell 14 rfl
  go_wp2_with (at_make; refine wpList_make_own _ rfl _ _ 22 rfl w3.heap.size 5 i0 (.int .u8 0) 1 Yba.underlying22 hi hz0 hz1 .i64 .i64 _ 16 rfl rfl (by omega) ?b2 ?b3 (Nat.le_refl _) ?_)
  case b2 => first | (rw [hz2]; omega) | omega
  case b3 => unfold maxLen; omega
  intro w4 hownP hgrow4
  have hP0 : Pb w3 w4 0 (bitsL a 0) := ⟨hownP, (Below.refl _ _).grown hgrow4 (Nat.le_refl _) (fun _ h => by cases h)⟩
  clear hownP hgrow4 g0 g1 g4 g5 g7 g9 g14
  go_wp2_with fail
  go_loopw [32, 33] (fun pb i wr => ∃ j : Nat, j ≤ n ∧ i = .int .u64 j ∧ pb = .slice (some ⟨w3.heap.size, 0, none⟩) j 16 ∧ Pb w3 wr j (bitsL a j)) (fun _ i _ => n - (intOf i).toNat)
  case atStart => exact ⟨0, Nat.zero_le _, rfl, rfl, hP0⟩
  case round =>
    obtain ⟨j, hj, rfl, rfl, hP⟩ := hrel
    clear hP0
    by_cases hlt : j < n
    · have hbit := bit_and a j ha256
      go_wp2_with (at_builtin; refine wpList_append_fits _ rfl _ _ 22 rfl w3.heap.size 5 i0 1 Yba.underlying22 hi hz1 w3.heap.size j 16 (bv (bitsL a j)) rfl (hP.own.alloc _) ⟨wr.heap.size, 0, none⟩ 1 1 [.int .u8 ((a / 2 ^ j % 2 : Nat) : Int)] rfl rfl (cell_one_new _ _ _) ?c2 (by omega) ?_)
      case c2 => first | rfl | (intro u hu; simp at hu; subst hu; rfl)
      intro w5 hown5 hgrow5
      have hP5 := hP.step (b := a / 2 ^ j % 2) rfl hown5 hgrow5
      rw [← bitsL_succ] at hP5
      clear hown5 hgrow5 hP
      go_wp2
      go_roundw
      case rel => exact ⟨j + 1, by omega, by go_num, rfl, hP5⟩
      case measure => simp [intOf]; omega
    · obtain rfl : n = j := by omega
      go_wp2_with (at_builtin; refine wpList_append_fits _ rfl _ _ 22 rfl w3.heap.size 5 i0 1 Yba.underlying22 hi hz1 w3.heap.size n 16 (bv (bitsL a n)) rfl (hP.own.alloc _) ⟨wr.heap.size, 0, none⟩ 1 1 [.int .u8 0] rfl rfl (cell_one_new _ _ _) ?c2 (by omega) ?_)
      case c2 => first | rfl | (intro u hu; simp at hu; subst hu; rfl)
      intro w5 hown5 hgrow5
      have hP5 := hP.step (b := 0) rfl hown5 hgrow5
      clear hown5 hgrow5 hP
      have hP := hP5
      clear hP5
      go_wp2_with fail
      go_loopw [32, 34] (fun pb i wr => ∃ j : Nat, j ≤ o ∧ i = .int .i64 j ∧ pb = .slice (some ⟨w3.heap.size, 0, none⟩) (n + 1 + j) 16 ∧ Pb w3 wr (n + 1 + j) (pbL a n 1 j)) (fun _ i _ => o - (intOf i).toNat)
      case atStart => exact ⟨0, Nat.zero_le _, rfl, rfl, by simpa [pbL] using hP⟩
      case round =>
        rename_i wq
        clear hP
        obtain ⟨j, hj, rfl, rfl, hP⟩ := hrel
        by_cases hlt2 : j < o
        · go_wp2_with (at_builtin; refine wpList_append_fits _ rfl _ _ 22 rfl w3.heap.size 5 i0 1 Yba.underlying22 hi hz1 w3.heap.size (n + 1 + j) 16 (bv (pbL a n 1 j)) rfl (hP.own.alloc _) ⟨wr.heap.size, 0, none⟩ 1 1 [.int .u8 1] rfl rfl (cell_one_new _ _ _) ?c2 (by omega) ?_)
          case c2 => first | rfl | (intro u hu; simp at hu; subst hu; rfl)
          intro w6 hown6 hgrow6
          have hP6 := hP.step (b := 1) rfl hown6 hgrow6
          rw [← pbL_succ] at hP6
          clear hown6 hgrow6 hP
          go_wp2
          go_roundw
          case rel => exact ⟨j + 1, by omega, by go_num, rfl, hP6⟩
          case measure => simp [intOf]; omega
        · obtain rfl : o = j := by omega
          clear hj hlt2
          go_wp2_with (at_make; refine wpList_make_blk _ rfl _ _ 22 rfl 5 i0 (.int .u8 0) Yba.underlying22 hi hz0 hz1 rfl .i64 .i64 _ _ m (m + 2) rfl rfl (by omega) (by omega) (by omega) ?b2 ?b3 ?_)
          case b2 => first | (rw [hz2]; omega) | omega
          case b3 => unfold maxLen; omega
          intro w7 cur2 hcl2 hg7 hgrow7
          have HC2 : Hid (cur2.length = m + 2) := hcl2
          have hb7 : Below wr.heap.size wr w7 := (Below.refl _ _).grown hgrow7 (Nat.le_refl _) (fun _ h => by cases h)
          have hbw7 : Below w.heap.size w w7 := hb3.trans ((hP.2.mono (by have := hB.lt; omega)).trans (hb7.mono (by have := hB.lt; have := hP.size; omega)))
          clear hcl2 hgrow7
          go_wp2_with (refine wpList_copy_splice rfl (.tmp 297) (.tmp 300) 22 22 rfl 5 Yba.underlying22 (by rw [hi]; simp [hz1]) _ _ _ _ _ _ rfl rfl wr.heap.size 0 cur2 5 hg7 (xs.map (Value.int .u8)) ?d1 ?d2 ?d3 (ints_oneCell _ _) wr.heap.size wr hb7 (Nat.le_refl _) ?_)
          case d1 => rw [List.length_map, HX.out]; simp only [Nat.min_def]; split <;> omega
          case d2 => intro hp; obtain ⟨ad, e1, e2⟩ := hsrc.cells _ hbw7 (by simpa [HX.out] using hp); exact ⟨ad, e1, fun j v hj => e2 j _ (by simp [hj])⟩
          case d3 => rw [List.length_map, HX.out, HC2.out]; omega
          intro w8 hg8 hb8
          have hP8 := hP.later hb8
          have hef := ef_own hg8 HC2.out HX.out (by omega)
          clear hg7 hb7 hg8 HC HCL hbw7 hP8
          go_wp2_with fail
          by_cases hT : n + 1 + o < 8
          · obtain ⟨eA, eN, eL, eK, eB⟩ : A' = val ((pbL a n 1 o).take (n + 1 + o)) ∧ N' = n + 1 + o ∧ L' = a6 ∧ KK = m ∧ BS = xs.map (Value.int .u8) := fin_small ha hT HE.out
            subst A' N' L' KK BS
            clear HE
            have hP8 := hP.later hb8
            have hB8 := hB.below hP8.2 hB.lt
            have hr1 := reads_own (own_later hown hP8.2)
            have hr2 := reads_own hef
            have HB8 : Below w.heap.size w w8 := hb3.trans (hP8.2.mono (by have := hB.lt; omega))
            clear hb8 hef hown hb3 hsrc hP
            refine wp_loop_rounds 1 ?_
            rw [rounds_succ]
            go_wp2_with fail
            go_loop [39, 40] (fun v i => ∃ j : Nat, j ≤ n + 1 + o ∧ i = .int .i64 j ∧ v = .int .u8 ((val ((pbL a n 1 o).take j) : Nat) : Int)) (fun _ i => n + 1 + o - (intOf i).toNat)
            case atStart => exact ⟨0, Nat.zero_le _, rfl, rfl⟩
            case round =>
              obtain ⟨j, hj, rfl, rfl⟩ := hrel
              by_cases hlt3 : j < n + 1 + o
              · obtain ⟨b, Hb⟩ : ∃ b, Hid (b = (pbL a n 1 o).getD j 0) := ⟨_, rfl⟩
                have gc : w8.cell? ⟨w3.heap.size, j, none⟩ = some (.int .u8 (b : Int)) := by rw [Hb.out]; exact hP8.cell j hlt3
                have hst : bits .or .u8 ((val ((pbL a n 1 o).take j) : Nat) : Int) ((b : Int) * 2 ^ j % 256) = ((val ((pbL a n 1 o).take (j + 1)) : Nat) : Int) := by rw [Hb.out]; exact val_step _ (pbL_bit a n 1 o) j (by rw [pbL_length]; omega) (by omega)
                go_wp2
                go_round
                case rel => exact ⟨j + 1, by omega, by go_num, rfl⟩
                case measure => simp [intOf]; omega
              · obtain rfl : j = n + 1 + o := by omega
                have g8 := hB8.cell 8 rfl
                have g10 := hB8.cell 10 rfl
                have g11 := hB8.cell 11 rfl
                have g12 := hB8.cell 12 rfl
                have g13 := hB8.cell 13 rfl
                go_wp2_with (go_at_call 5; refine (equal_yes _ _ xs _ hr1 hr2).mono ?_; rintro e w' ⟨rfl, rfl⟩)
                go_ret
                exact ⟨by simp; exact ret_o o, HB8⟩
          · have hKm : ¬ m < m := by omega
            obtain ⟨eA, eN, eL, eK, eB⟩ : A' = val (((pbL a n 1 o).drop 8).take (n + 1 + o - 8)) ∧ N' = n + 1 + o - 8 ∧ L' = true ∧ KK = m ∧ BS = xs.map (Value.int .u8) := fin_full ha hT hKm HE.out
            subst A' N' L' KK BS
            clear HE
            have hP8 := hP.later hb8
            refine wp_loop_rounds 2 ?_
            rw [rounds_succ]
            go_wp2_with fail
            go_loop [37, 38] (fun v i => ∃ j : Nat, j ≤ 8 ∧ i = .int .i64 j ∧ v = .int .u8 ((val ((pbL a n 1 o).take j) : Nat) : Int)) (fun _ i => 8 - (intOf i).toNat)
            case atStart => exact ⟨0, Nat.zero_le _, rfl, rfl⟩
            case round =>
              obtain ⟨j, hj, rfl, rfl⟩ := hrel
              by_cases hlt3 : j < 8
              · obtain ⟨b, Hb⟩ : ∃ b, Hid (b = (pbL a n 1 o).getD j 0) := ⟨_, rfl⟩
                have gc : w8.cell? ⟨w3.heap.size, j, none⟩ = some (.int .u8 (b : Int)) := by rw [Hb.out]; exact hP8.cell j (by omega)
                have hst : bits .or .u8 ((val ((pbL a n 1 o).take j) : Nat) : Int) ((b : Int) * 2 ^ j % 256) = ((val ((pbL a n 1 o).take (j + 1)) : Nat) : Int) := by rw [Hb.out]; exact val_step _ (pbL_bit a n 1 o) j (by rw [pbL_length]; omega) (by omega)
                go_wp2
                go_round
                case rel => exact ⟨j + 1, by omega, by go_num, rfl⟩
                case measure => simp [intOf]; omega
              · obtain rfl : j = 8 := by omega
                have hP9 := hP8
                have hr2 := reads_own hef
                clear hP8
                have hB9 := hB.below hP9.2 hB.lt
                have hr1 : Reads w8 (.slice ad (m) cap) xs := reads_own (by simpa using own_later hown hP9.2)
                have HB9 : Below w.heap.size w w8 := hb3.trans (hP9.2.mono (by have := hB.lt; omega))
                clear hb8 hef hown hb3 hsrc hP
                go_wp2_with fail
                rw [rounds_succ]
                go_wp2_with fail
                go_loop [39, 40] (fun v i => ∃ j : Nat, j ≤ n + 1 + o - 8 ∧ i = .int .i64 j ∧ v = .int .u8 ((val (((pbL a n 1 o).drop 8).take j) : Nat) : Int)) (fun _ i => n + 1 + o - 8 - (intOf i).toNat)
                case atStart => exact ⟨0, Nat.zero_le _, rfl, rfl⟩
                case round =>
                  obtain ⟨j, hj, rfl, rfl⟩ := hrel
                  by_cases hlt3 : j < n + 1 + o - 8
                  · obtain ⟨b, Hb⟩ : ∃ b, Hid (b = ((pbL a n 1 o).drop 8).getD j 0) := ⟨_, rfl⟩
                    have gc : w8.cell? ⟨w3.heap.size, 8 + j, none⟩ = some (.int .u8 (b : Int)) := by rw [Hb.out, drop_getD]; exact hP9.cell (8 + j) (by omega)
                    have hst : bits .or .u8 ((val (((pbL a n 1 o).drop 8).take j) : Nat) : Int) ((b : Int) * 2 ^ j % 256) = ((val (((pbL a n 1 o).drop 8).take (j + 1)) : Nat) : Int) := by rw [Hb.out]; exact val_step _ (drop_bit (pbL_bit a n 1 o)) j (by rw [List.length_drop, pbL_length]; omega) (by omega)
                    go_wp2
                    go_round
                    case rel => exact ⟨j + 1, by omega, by go_num, rfl⟩
                    case measure => simp [intOf]; omega
                  · obtain rfl : j = n + 1 + o - 8 := by omega
                    have g8 := hB9.cell 8 rfl
                    have g10 := hB9.cell 10 rfl
                    have g11 := hB9.cell 11 rfl
                    have g12 := hB9.cell 12 rfl
                    have g13 := hB9.cell 13 rfl
                    go_wp2_with (go_at_call 5; refine (equal_yes _ _ xs _ hr1 hr2).mono ?_; rintro e w' ⟨rfl, rfl⟩)
                    go_ret
                    exact ⟨by simp; exact ret_o o, HB9⟩

end Go.Proofs.Ybulkcvts

/- The law LawS4870BOne: its walk, a lock. -/
import Derived.Test.YbulkcvviDoorPre
namespace Go.Proofs.YbulkcvviDoor
open Go.RowKit
set_option linter.unusedVariables false

set_option maxRecDepth 100000 in
set_option maxHeartbeats 4000000 in
theorem one_yes (s : ByteArray) (v val wts : Int) (a5 : Option Addr) (l5 c5 A6 n : Nat) (bs : List UInt8) (w : World) (hs : s.size ≤ 1024) (hl5 : l5 ≤ 1024) (hA : A6 < 65536) (hn : (A6 : Int) % 300 = n) (hn3 : n < 300) (h0 : -9223372036854775808 ≤ v) (h1 : v ≤ 9223372036854775807)
    (hsrc : ∀ W, Below w.heap.size w W → ∀ ad, a5 = some ad → ∀ (j : Nat) (u : Value), (Lib.byteCells bs)[j]? = some u → W.cell? (ad.add j) = some u) (hbl : bs.length = l5) (hno : a5 = none → l5 = 0 ∧ c5 = 0)
    (htab : Lib.TabBelow Ybad.prog w.heap.size w Ybad.tabN .u64 Lib.pow10Tab) :
    Calls Ybad.prog 3 #[.string s, .int .i64 v, .int .i64 val, .int .i64 wts, .bool true, .slice a5 l5 c5, .int .u16 A6] w fun e w' => e = .returned (.bool true) ∧ Below w.heap.size w w' := by
  obtain ⟨i0, hi, hz0, hz1, hz2⟩ := info_parts info28
  obtain ⟨i5, hi5, hy0, hy1, hy2⟩ := info_parts info5
  have HS : Hid (∀ W, Below w.heap.size w W → ∀ ad, a5 = some ad → ∀ (j : Nat) (u : Value), (Lib.byteCells bs)[j]? = some u → W.cell? (ad.add j) = some u) := hsrc
  have HL : Hid (bs.length = l5) := hbl
  have HN : Hid (a5 = none → l5 = 0 ∧ c5 = 0) := hno
  have HT : Hid (Lib.TabBelow Ybad.prog w.heap.size w Ybad.tabN .u64 Lib.pow10Tab) := htab
  have hlin : (lineL s true v).length ≤ 1100 := by have := Lib.itoa_length_le v h0 h1; simp [lineL, waitsS, lockS]; omega
  clear hsrc hbl hno htab
  go_enter Ybad.func3, Ybad.ntmps3
  go_wp2_with (at_make; refine wpList_make_rows _ rfl _ _ 24 rfl 28 i0 (.agg #[.slice none 0 0, .int .i64 0, .pointer none, .slice none 0 0, .int .i64 0]) 5 Ybad.underlying24 hi hz0 hz1 .i64 .i64 _ _ n rfl rfl (by omega) (by omega) ?b2 ?b3 ?_)
  case b2 => first | (rw [hz2]; omega) | omega
  case b3 => unfold maxLen; omega
  intro w1 hB1 hs1 hb1
  have hB1' : ∃ cur, Blk w1 w.heap.size 28 cur ∧ Tsk cur n 0 := ⟨_, by simpa using hB1, by simpa using tsk_made n⟩
  clear hB1
  go_wp2_with fail
  go_loopw [17] (fun q wr => ∃ (i : Nat) (cur : List Value), i ≤ n ∧ q = .int .i64 i ∧ Blk wr w.heap.size 28 cur ∧ Tsk cur n i ∧ wr.heap.size = w.heap.size + 1 ∧ Below w.heap.size w wr) (fun q _ => n - (intOf q).toNat)
  case atStart => obtain ⟨cur, h1, h2⟩ := hB1'; exact ⟨0, cur, Nat.zero_le _, rfl, h1, h2, hs1, hb1⟩
  case round =>
    clear hB1'
    obtain ⟨i, cur, hin, rfl, hB, hTs, hsz, hb⟩ := hrel
    by_cases hlt : i < n
    · have x1 := hB.cell _ (hTs.c1 i hlt)
      have xf := hB.free (i * 5 + 1)
      rw [if_neg (by omega)] at x1
      go_wp2
      go_roundw
      case rel => exact ⟨i + 1, _, by omega, by go_num, hB.set _ _, hTs.step hlt _ (by go_num), by rw [size_setCell]; exact hsz, hb.setCell (by simp) _⟩
      case measure => simp [intOf]; omega
    · obtain rfl : n = i := by omega
      go_wp2_with (at_builtin; refine wpList_app_src rfl _ rfl w.heap.size a5 l5 c5 bs rfl HL.out HN.out (HS.out _ hb) hl5 (by omega) ?_)
      intro sv w2 hown2 hgrow2
      have hb2 : Below w.heap.size w w2 := hb.grown hgrow2 (by omega) (fun b hb => by cases hb)
      have hB2 := hB.grown hgrow2 (by simp)
      have hz2' : w.heap.size < w2.heap.size := hB2.lt
      obtain ⟨adp, capp, rfl⟩ := own_shape hown2
      obtain ⟨cells, hcb, k80, k83, k84, k87⟩ := dbC_ex wts adp l5 capp (some ⟨w.heap.size, 0, none⟩) n n
      have HCB : Hid (Ybad.prog.built 69 [(11, .int .i64 wts), (15, .slice adp l5 capp), (14, .slice (some ⟨w.heap.size, 0, none⟩) n n)] = some cells) := hcb
      clear hcb hgrow2 hB hb
      go_wp2_with (refine wpList_build_to rfl 69 #[(11, .tmp 52), (15, .tmp 54), (14, .tmp 55)] rfl [(11, .int .i64 wts), (15, .slice adp l5 capp), (14, .slice (some ⟨w.heap.size, 0, none⟩) n n)] cells ?f0 HCB.out ?_)
      have hwk2 : w2.ownsRow w.heap.size 28 5 (.slice (some ⟨w.heap.size, 0, none⟩) n n) n cur := own_tasks hB2 hTs.len (by omega)
      have hP := Pre.mk' hown2 hwk2 hb2 s v val cells hz2'
      refine (start_yes w.heap.size w2.heap.size (w2.heap.size + 1) l5 n (.slice adp l5 capp) (some ⟨w.heap.size, 0, none⟩) n (Lib.byteCells bs) cur s v val wts cells.toList (txL s (w2.heap.size + 1 + 1)) _ hP.db k80 k83 k84 k87 hP.tx rfl ⟨_, rfl⟩ hP.own hP.wk (by omega) (by omega) (by omega) (by omega) hs (by omega) h0 h1 (HT.out.on hP.below)).mono ?_
      rintro e w6 ⟨rfl, cs', ad, cap, ad3, cap3, hSp0⟩
      obtain ⟨Wt, HWt⟩ : ∃ Wt, Hid (Wt = (preW s v val cells w2).heap.size + 1) := ⟨_, rfl⟩
      have hSp : Sp w.heap.size w2.heap.size (w2.heap.size + 1) l5 n s v val true (txL s (w2.heap.size + 1 + 1)) (Lib.byteCells bs) cur (wrap64 (wts + 1)) Wt (preW s v val cells w2) w6 cs' ad cap ad3 cap3 := by rw [HWt.out]; exact hSp0
      have hold := hSp.kept _ _ _ hP.old (by decide) (by decide) (by omega) (by omega)
      have hb6 : Below w.heap.size w w6 := hP.below.trans hSp.below
      have hout6 := hSp.own
      have hWo : Wt ≠ w2.heap.size + 1 + 1 := by rw [HWt.out]; unfold preW; simp only [size_alloc]; omega
      have hwk6 : w6.ownsRow w.heap.size 28 5 (.slice ad3 (n + 1) cap3) (n + 1) (cur ++ tskL true Wt) := hSp.wk
      have d83 := hSp.db.cell 1083 (v := .slice ad3 (n + 1) cap3) hSp.work
      have e13 := hSp.tx.cell 13 (v := .pointer (some ⟨Wt, 0, none⟩)) rfl
      have e0 := hSp.tx.cell 0 (v := .string s) rfl
      have p0 := hSp.wt.cell 0 rfl
      have p2 := hSp.wt.cell 2 rfl
      have p3 := hSp.wt.cell 3 rfl
      have p4 := hSp.wt.cell 4 rfl
      have p5 := hSp.wt.cell 5 rfl
      have p6 := hSp.wt.cell 6 (v := .int .i64 2) rfl
      have p7 := hSp.wt.cell 7 rfl
      have p8 := hSp.wt.cell 8 rfl
      have p9 := hSp.wt.cell 9 rfl
      have p10 := hSp.wt.cell 10 rfl
      have p11 := hSp.wt.cell 11 rfl
      have o0 := hold.cell 0 rfl
      have o7 := hold.cell 7 rfl
      have d80 := hSp.db.cell 1080 hSp.seq
      have d84 := hSp.db.cell 1084 hSp.out
      have u1 := eq_wt_ne hWo hSp.wt hold
      have u2 := neq_wt
      have u3 := neq_tx
      have u4 : ∀ (W : World), (binOp .neq 51 (.slice none 0 0) (.slice none 0 0)).run Ybad.prog W = .ok (.bool false) W := fun W => run_neq_slice_nil_any W _ _ none 0 0 0 0 Ybad.underlying51
      have u5 : ∀ (W : World), (binOp .neq 82 (.slice none 0 0) (.slice none 0 0)).run Ybad.prog W = .ok (.bool false) W := fun W => run_neq_slice_nil_any W _ _ none 0 0 0 0 Ybad.underlying82
      have u6 : ∀ (W : World), (binOp .neq 25 (.slice none 0 0) (.slice none 0 0)).run Ybad.prog W = .ok (.bool false) W := fun W => run_neq_slice_nil_any W _ _ none 0 0 0 0 Ybad.underlying25
      have hz6 := hb6.size
      clear hSp0 hSp hP hold hown2 hwk2 hb2 hB2 HCB k80 k83 k84 k87
      go_wp2_with (at_builtin; refine wpList_app_src rfl _ rfl w6.heap.size a5 l5 c5 bs rfl HL.out HN.out (HS.out _ hb6) hl5 (Nat.le_refl _) ?_)
      intro sv7 w7 hown7 hgrow7
      have hb7 : Below w6.heap.size w6 w7 := (Below.refl _ _).grown hgrow7 (Nat.le_refl _) (fun b hb => by cases hb)
      have hz7 := hb7.size
      clear hgrow7
      go_wp2_with (go_at_call 6; refine (line_any s true v _ hs h0 h1).mono ?_)
      rintro e w8 ⟨gl, cl, rfl, hOl, hb8⟩
      have hb8' := hb7.trans (hb8.mono hz7)
      have hown8 := own_later5 hown7 hb8
      have hz8 := hb8'.size
      go_wp2_with (at_builtin; refine wpList_append_own _ rfl _ _ 22 rfl w6.heap.size 5 i5 (.int .u8 0) 1 1 Ybad.underlying22 hi5 hy0 hy1 hy2 rfl (by decide) _ _ _ rfl hown8 _ _ _ (Lib.byteCells (lineL s true v)) rfl ?g0 hOl.cells (bytes_one _) ?g3 ?g4 hz8 ?_)
      case g0 => simp [Lib.byteCells]
      case g3 => unfold maxLen; omega
      case g4 => omega
      intro sv9 w9 hown9 hgrow9 _
      have hb9' : Below w6.heap.size w6 w9 := hb8'.grown hgrow9 hz8 (fun b hb => (hown8.lt b hb).1)
      have hr1 : Reads w9 (.slice ad (l5 + (lineL s true v).length) cap) (bs ++ lineL s true v) := reads_own (by rw [bytes_app]; exact own_later5 hout6 hb9')
      have hr2 : Reads w9 sv9 (bs ++ lineL s true v) := reads_own (by rw [bytes_app]; exact hown9)
      have hwk9 := own_later5 hwk6 hb9'
      have hb9 : Below w.heap.size w w9 := hb6.trans (hb9'.mono hz6)
      have hz9 : w.heap.size ≤ w9.heap.size := hb9.size
      have dd4 := cell_later hb9' d84
      have dd9 := cell_later hb9' d83
      obtain ⟨ad9, cap9, rfl⟩ := own_shape hown9
      clear hgrow9 hown8 hown9 hown7 hOl hb8 hb8' hb7 hout6 hwk6 d84 d83 d80 e13 e0 p0 p2 p3 p4 p5 p6 p7 p8 p9 p10 p11 o0 o7 u1
      go_wp2_with (go_at_call 7; refine (equal_yes _ _ _ _ hr1 hr2).mono ?_; rintro e w' ⟨rfl, rfl⟩)
      go_loopw [26, 27] (fun q _ wr => ∃ i : Nat, i ≤ n ∧ q = .int .i64 i ∧ Below w9.heap.size w9 wr) (fun q _ _ => n - (intOf q).toNat)
      case atStart => exact ⟨0, Nat.zero_le _, rfl, Below.refl _ _⟩
      case round =>
        obtain ⟨i, hin, rfl, hb⟩ := hrel
        by_cases hlt : i < n
        · obtain ⟨gw, rfl⟩ := own5_some hwk9 (by omega)
          have hcl := hTs.len
          have y0 : wr.cell? ⟨gw, i * 5, none⟩ = some (.slice none 0 0) := cell_later hb (own5_cell hwk9 i 0 (by omega) (by decide) (app_get (hTs.c0 i hlt)))
          have y1 : wr.cell? ⟨gw, i * 5 + 1, none⟩ = some (.int .i64 i) := cell_later hb (own5_cell hwk9 i 1 (by omega) (by decide) (app_get (by rw [hTs.c1 i hlt, if_pos hlt])))
          have y2 : wr.cell? ⟨gw, i * 5 + 2, none⟩ = some (.pointer none) := cell_later hb (own5_cell hwk9 i 2 (by omega) (by decide) (app_get (hTs.c2 i hlt)))
          have y3 : wr.cell? ⟨gw, i * 5 + 3, none⟩ = some (.slice none 0 0) := cell_later hb (own5_cell hwk9 i 3 (by omega) (by decide) (app_get (hTs.c3 i hlt)))
          have y4 : wr.cell? ⟨gw, i * 5 + 4, none⟩ = some (.int .i64 0) := cell_later hb (own5_cell hwk9 i 4 (by omega) (by decide) (app_get (hTs.c4 i hlt)))
          have d9 := cell_later hb dd9
          have hbz := hb.size
          go_wp2
          go_roundw
          case rel => exact ⟨i + 1, by omega, by go_num, hb.alloc hb.size _⟩
          case measure => simp [intOf]; omega
        · obtain rfl : n = i := by omega
          obtain ⟨gw, rfl⟩ := own5_some hwk9 (by omega)
          have hcur := hTs.len
          have y0 : wr.cell? ⟨gw, n * 5, none⟩ = some (.slice none 0 0) := cell_later hb (own5_cell hwk9 n 0 (by omega) (by decide) (tsk_last hcur 0 rfl))
          have y1 : wr.cell? ⟨gw, n * 5 + 1, none⟩ = some (.int .i64 0) := cell_later hb (own5_cell hwk9 n 1 (by omega) (by decide) (tsk_last hcur 1 rfl))
          have y2 : wr.cell? ⟨gw, n * 5 + 2, none⟩ = some (.pointer (some ⟨Wt, 0, none⟩)) := cell_later hb (own5_cell hwk9 n 2 (by omega) (by decide) (tsk_last hcur 2 rfl))
          have y3 : wr.cell? ⟨gw, n * 5 + 3, none⟩ = some (.slice none 0 0) := cell_later hb (own5_cell hwk9 n 3 (by omega) (by decide) (tsk_last hcur 3 rfl))
          have y4 : wr.cell? ⟨gw, n * 5 + 4, none⟩ = some (.int .i64 0) := cell_later hb (own5_cell hwk9 n 4 (by omega) (by decide) (tsk_last hcur 4 rfl))
          have d9 := cell_later hb dd9
          go_wp2
          go_ret
          exact ⟨rfl, hb9.trans ((hb.mono hz9).alloc (by have := hb.size; omega) _)⟩
end Go.Proofs.YbulkcvviDoor

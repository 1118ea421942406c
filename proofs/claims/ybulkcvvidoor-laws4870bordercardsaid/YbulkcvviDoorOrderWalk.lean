/- LawS4870BOrder: its walk. -/
import Derived.Test.YbulkcvviDoorOrderSt2
namespace Go.Proofs.YbulkcvviDoor
open Go.RowKit
set_option linter.unusedVariables false

set_option maxRecDepth 100000 in
set_option maxHeartbeats 8000000 in
theorem order_walk (wts : Int) (a1 : Option Addr) (N c1 : Nat) (a2 : Option Addr) (l2 c2 : Nat) (lk : Nat → Bool) (vf : Nat → Int) (w : World) (hN : N ≤ 300) (hw : -9223372036854775808 ≤ wts ∧ wts ≤ 9223372036854775807)
    (hlk : ∀ W, Below w.heap.size w W → ∀ i, i < N → ∃ b o, a1 = some ⟨b, o, none⟩ ∧ b < w.heap.size ∧ W.cell? ⟨b, o + i, none⟩ = some (.bool (lk i)))
    (hvs : ∀ W, Below w.heap.size w W → ∀ i, i < l2 → ∃ b o, a2 = some ⟨b, o, none⟩ ∧ W.cell? ⟨b, o + i, none⟩ = some (.int .i64 (vf i)))
    (hvr : ∀ i, -9223372036854775808 ≤ vf i ∧ vf i ≤ 9223372036854775807)
    (htab : Lib.TabBelow Ybad.prog w.heap.size w Ybad.tabN .u64 Lib.pow10Tab) :
    Calls Ybad.prog 4 #[.int .i64 wts, .slice a1 N c1, .slice a2 l2 c2] w fun e w' => e = .returned (.bool true) ∧ Below w.heap.size w w' := by
  obtain ⟨i0, hi, hz0, hz1, hz2⟩ := info_parts info71
  obtain ⟨cells, hcb, k80, k83, k84, k87⟩ := dbW_ex wts
  have HCB : Hid (Ybad.prog.built 69 [(11, .int .i64 wts)] = some cells) := hcb
  have HLK : Hid (∀ W, Below w.heap.size w W → ∀ i, i < N → ∃ b o, a1 = some ⟨b, o, none⟩ ∧ b < w.heap.size ∧ W.cell? ⟨b, o + i, none⟩ = some (.bool (lk i))) := hlk
  have HVS : Hid (∀ W, Below w.heap.size w W → ∀ i, i < l2 → ∃ b o, a2 = some ⟨b, o, none⟩ ∧ W.cell? ⟨b, o + i, none⟩ = some (.int .i64 (vf i))) := hvs
  have HR : Hid (∀ i, -9223372036854775808 ≤ vf i ∧ vf i ≤ 9223372036854775807) := hvr
  have HT : Hid (Lib.TabBelow Ybad.prog w.heap.size w Ybad.tabN .u64 Lib.pow10Tab) := htab
  clear hcb hlk hvs hvr htab
  go_enter Ybad.func4, Ybad.ntmps4
  go_wp2_with (first | (at_make; refine wpList_make_rows _ rfl _ _ 42 rfl 71 i0 (.pointer none) 1 Ybad.underlying42 hi hz0 hz1 .i64 .i64 _ _ N rfl rfl rfl rfl ?b2 ?b3 ?_) | (refine wpList_build_to rfl 69 #[(11, .tmp 21)] rfl [(11, .int .i64 wts)] cells ?f0 HCB.out ?_))
  case b2 => first | (rw [hz2]; omega) | omega
  case b3 => unfold maxLen; omega
  intro w1 hB1 hs1 hb1
  have hI : Lp N wts lk w 0 (.slice none 0 0) w1 := Lp.init hw k80 k83 k84 k87 (by simpa using hb1) (by simpa using hB1)
  clear hB1 hs1 hb1 k80 k83 k84 k87 HCB
  go_wp2_with fail
  go_loopw [9, 10, 11, 12, 13, 14] (fun ex q _ _ _ _ wr => ∃ i : Nat, i ≤ N ∧ q = .int .i64 i ∧ Lp N wts lk w i ex wr) (fun _ q _ _ _ _ _ => N - (intOf q).toNat)
  case atStart => exact ⟨0, Nat.zero_le _, rfl, hI⟩
  case round =>
    clear hI
    obtain ⟨i, hin, rfl, cs, tk, L, ado, capo, adw, capw, Tf, Wf, h, hSb, hex, hne, hL⟩ := hrel
    by_cases hlt : i < N
    · obtain ⟨b1, o1, rfl, hbb, _⟩ := HLK.out wr h.below i hlt
      have hlk0 : ∀ W, Below w.heap.size w W → W.cell? ⟨b1, o1 + i, none⟩ = some (.bool (lk i)) := fun W hW => by
        obtain ⟨b, o, e, _, hc⟩ := HLK.out W hW i hlt
        simp at e
        obtain ⟨rfl, rfl⟩ := e
        exact hc
      by_cases hv2 : i < l2
      · cases hlki : lk i with
        | true =>
          have hlk1 : Hid (∀ W, Below w.heap.size w W → W.cell? ⟨b1, o1 + i, none⟩ = some (.bool true)) := fun W hW => by rw [hlk0 W hW, hlki]
          clear hlk0 HLK
          obtain ⟨b2, o2, rfl, x2⟩ := HVS.out wr h.below i hv2
          have hr0 : -9223372036854775808 ≤ vf i ∧ vf i ≤ 9223372036854775807 := HR.out i
          go_wp2_with (go_at_call 8; refine (itoa_any i wr (by omega) (by omega)).mono ?_)
          rintro e w1 ⟨adn, capn, rfl, hOn, hbn⟩
          have h1 := h.later hbn
          have hS1 := hSb.to fun cs hc => hc.below hbn hc.lt
          have hex1 := own_later5 hex hbn
          have hrd : (convert 22 9 (.slice (some adn) (Lib.itoa i).length capn)).run Ybad.prog w1 = .ok (.string ⟨(Lib.itoa i).toArray⟩) w1 := reads_own hOn
          have x1 : w1.cell? ⟨b1, o1 + i, none⟩ = some (.bool true) := hlk1.out w1 h1.below
          have hz1 := h1.db.lt
          clear hOn hbn
          have hil : ((Lib.itoa (i : Int)).length : Int) ≤ 21 := Int.ofNat_le.2 (Lib.itoa_length_le (i : Int) (by omega) (by omega))
          have hcat : ∀ W : World, (Op.stringOp .add ⟨#[84]⟩ ⟨(Lib.itoa (i : Int)).toArray⟩).run Ybad.prog W = .ok (.string (nameS i)) W := nameS_run i (by omega)
          have yS : w1.cell? ⟨w.heap.size + 1, i, none⟩ = some (.pointer none) := hS1.cell hlt
          have yF : w1.frozen? ⟨w.heap.size + 1, i, none⟩ = false := hS1.free i
          have hzS : w.heap.size + 1 < w1.heap.size := hS1.lt
          have q1 : b1 ≠ w.heap.size + 1 := by omega
          have q2 : b1 < w1.heap.size := by omega
          go_wp2_with fail
          have hP := St.pre h1 hS1 hlt hex1 (nameS i) (by omega)
          refine (start_yesG w.heap.size w.heap.size w1.heap.size L.length (cnt lk i) (.slice ado L.length capo) adw capw (Lib.byteCells L) tk (nameS i) (vf i) 0 (wrap64 (wts + i)) cs (txN (nameS i)) _ hP.st.db hP.st.c80 hP.st.c83 hP.st.c84 hP.st.c87 hP.tx rfl ⟨_, rfl⟩ hP.st.out hP.st.wk (Nat.le_refl _) (by omega) (by omega) (by omega) (Nat.le_trans (nameS_le i (by omega)) (by decide)) (by have := cnt_le lk i; omega) hr0.1 hr0.2 (HT.out.on hP.st.below)).mono ?_
          rintro e w4 ⟨rfl, cs', ad, cap, ad3, cap3, hSp⟩
          have hN4 := hP.next hne (lk_i := hlki) hSp
          have x4 : w4.cell? ⟨b1, o1 + i, none⟩ = some (.bool true) := hlk1.out w4 hN4.st.below
          clear hSp hP h1 hS1 hex1
          go_wp2_with (go_at_call 6; refine (line_any (nameS i) true (vf i) _ (Nat.le_trans (nameS_le i (by omega)) (by decide)) hr0.1 hr0.2).mono ?_)
          rintro e w5 ⟨gl, cl, rfl, hOl, hb5⟩
          have hN5 := hN4.later hb5
          clear hN4 hb5
          go_wp2_with (at_builtin; refine wpList_sl_at rfl _ _ rfl w.heap.size _ _ _ rfl hN5.row _ _ _ (Lib.byteCells (lineL (nameS i) true (vf i))) rfl ?g0 hOl.cells (bytes_one _) ?g3 ?g4 hN5.st.hB ?_)
          case g0 => simp [Lib.byteCells]
          case g3 => have := lineN_len i (by omega) true (vf i) hr0; unfold maxLen; omega
          case g4 => have := lineN_len i (by omega) true (vf i) hr0; omega
          intro ex6 w6 hex6 hg6
          have hN6 := hN5.grew hex6 hg6
          clear hN5 hOl hg6 hex6
          go_wp2_with fail
          go_roundw
          case rel => exact ⟨i + 1, by omega, by go_num, hN6.rel (lineN_len i (by omega) true (vf i) hr0) hL⟩
          case measure => simp [intOf]; omega

        | false =>
          have hlk1 : Hid (∀ W, Below w.heap.size w W → W.cell? ⟨b1, o1 + i, none⟩ = some (.bool false)) := fun W hW => by rw [hlk0 W hW, hlki]
          clear hlk0 HLK
          obtain ⟨b2, o2, rfl, x2⟩ := HVS.out wr h.below i hv2
          have hr0 : -9223372036854775808 ≤ vf i ∧ vf i ≤ 9223372036854775807 := HR.out i
          go_wp2_with (go_at_call 8; refine (itoa_any i wr (by omega) (by omega)).mono ?_)
          rintro e w1 ⟨adn, capn, rfl, hOn, hbn⟩
          have h1 := h.later hbn
          have hS1 := hSb.to fun cs hc => hc.below hbn hc.lt
          have hex1 := own_later5 hex hbn
          have hrd : (convert 22 9 (.slice (some adn) (Lib.itoa i).length capn)).run Ybad.prog w1 = .ok (.string ⟨(Lib.itoa i).toArray⟩) w1 := reads_own hOn
          have x1 : w1.cell? ⟨b1, o1 + i, none⟩ = some (.bool false) := hlk1.out w1 h1.below
          have hz1 := h1.db.lt
          clear hOn hbn
          have hil : ((Lib.itoa (i : Int)).length : Int) ≤ 21 := Int.ofNat_le.2 (Lib.itoa_length_le (i : Int) (by omega) (by omega))
          have hcat : ∀ W : World, (Op.stringOp .add ⟨#[84]⟩ ⟨(Lib.itoa (i : Int)).toArray⟩).run Ybad.prog W = .ok (.string (nameS i)) W := nameS_run i (by omega)
          have yS : w1.cell? ⟨w.heap.size + 1, i, none⟩ = some (.pointer none) := hS1.cell hlt
          have yF : w1.frozen? ⟨w.heap.size + 1, i, none⟩ = false := hS1.free i
          have hzS : w.heap.size + 1 < w1.heap.size := hS1.lt
          have q1 : b1 ≠ w.heap.size + 1 := by omega
          have q2 : b1 < w1.heap.size := by omega
          go_wp2_with fail
          have hP := St.pre h1 hS1 hlt hex1 (nameS i) (by omega)
          refine (start_noG w.heap.size w.heap.size w1.heap.size L.length (cnt lk i) (.slice ado L.length capo) adw capw (Lib.byteCells L) tk (nameS i) (vf i) 0 (wrap64 (wts + i)) cs (txN (nameS i)) _ hP.st.db hP.st.c80 hP.st.c83 hP.st.c84 hP.st.c87 hP.tx rfl ⟨_, rfl⟩ hP.st.out hP.st.wk (Nat.le_refl _) (by omega) (by omega) (by omega) (Nat.le_trans (nameS_le i (by omega)) (by decide)) (by have := cnt_le lk i; omega) hr0.1 hr0.2 (HT.out.on hP.st.below)).mono ?_
          rintro e w4 ⟨rfl, cs', ad, cap, ad3, cap3, hSp⟩
          have hN4 := hP.next hne (lk_i := hlki) hSp
          have x4 : w4.cell? ⟨b1, o1 + i, none⟩ = some (.bool false) := hlk1.out w4 hN4.st.below
          clear hSp hP h1 hS1 hex1
          go_wp2_with (go_at_call 6; refine (line_any (nameS i) false (vf i) _ (Nat.le_trans (nameS_le i (by omega)) (by decide)) hr0.1 hr0.2).mono ?_)
          rintro e w5 ⟨gl, cl, rfl, hOl, hb5⟩
          have hN5 := hN4.later hb5
          clear hN4 hb5
          go_wp2_with (at_builtin; refine wpList_sl_at rfl _ _ rfl w.heap.size _ _ _ rfl hN5.row _ _ _ (Lib.byteCells (lineL (nameS i) false (vf i))) rfl ?g0 hOl.cells (bytes_one _) ?g3 ?g4 hN5.st.hB ?_)
          case g0 => simp [Lib.byteCells]
          case g3 => have := lineN_len i (by omega) false (vf i) hr0; unfold maxLen; omega
          case g4 => have := lineN_len i (by omega) false (vf i) hr0; omega
          intro ex6 w6 hex6 hg6
          have hN6 := hN5.grew hex6 hg6
          clear hN5 hOl hg6 hex6
          go_wp2_with fail
          go_roundw
          case rel => exact ⟨i + 1, by omega, by go_num, hN6.rel (lineN_len i (by omega) false (vf i) hr0) hL⟩
          case measure => simp [intOf]; omega

      · cases hlki : lk i with
        | true =>
          have hlk1 : Hid (∀ W, Below w.heap.size w W → W.cell? ⟨b1, o1 + i, none⟩ = some (.bool true)) := fun W hW => by rw [hlk0 W hW, hlki]
          clear hlk0 HLK
          have hr0 : -9223372036854775808 ≤ (0 : Int) ∧ (0 : Int) ≤ 9223372036854775807 := by omega
          go_wp2_with (go_at_call 8; refine (itoa_any i wr (by omega) (by omega)).mono ?_)
          rintro e w1 ⟨adn, capn, rfl, hOn, hbn⟩
          have h1 := h.later hbn
          have hS1 := hSb.to fun cs hc => hc.below hbn hc.lt
          have hex1 := own_later5 hex hbn
          have hrd : (convert 22 9 (.slice (some adn) (Lib.itoa i).length capn)).run Ybad.prog w1 = .ok (.string ⟨(Lib.itoa i).toArray⟩) w1 := reads_own hOn
          have x1 : w1.cell? ⟨b1, o1 + i, none⟩ = some (.bool true) := hlk1.out w1 h1.below
          have hz1 := h1.db.lt
          clear hOn hbn
          have hil : ((Lib.itoa (i : Int)).length : Int) ≤ 21 := Int.ofNat_le.2 (Lib.itoa_length_le (i : Int) (by omega) (by omega))
          have hcat : ∀ W : World, (Op.stringOp .add ⟨#[84]⟩ ⟨(Lib.itoa (i : Int)).toArray⟩).run Ybad.prog W = .ok (.string (nameS i)) W := nameS_run i (by omega)
          have yS : w1.cell? ⟨w.heap.size + 1, i, none⟩ = some (.pointer none) := hS1.cell hlt
          have yF : w1.frozen? ⟨w.heap.size + 1, i, none⟩ = false := hS1.free i
          have hzS : w.heap.size + 1 < w1.heap.size := hS1.lt
          have q1 : b1 ≠ w.heap.size + 1 := by omega
          have q2 : b1 < w1.heap.size := by omega
          go_wp2_with fail
          have hP := St.pre h1 hS1 hlt hex1 (nameS i) (by omega)
          refine (start_yesG w.heap.size w.heap.size w1.heap.size L.length (cnt lk i) (.slice ado L.length capo) adw capw (Lib.byteCells L) tk (nameS i) 0 0 (wrap64 (wts + i)) cs (txN (nameS i)) _ hP.st.db hP.st.c80 hP.st.c83 hP.st.c84 hP.st.c87 hP.tx rfl ⟨_, rfl⟩ hP.st.out hP.st.wk (Nat.le_refl _) (by omega) (by omega) (by omega) (Nat.le_trans (nameS_le i (by omega)) (by decide)) (by have := cnt_le lk i; omega) hr0.1 hr0.2 (HT.out.on hP.st.below)).mono ?_
          rintro e w4 ⟨rfl, cs', ad, cap, ad3, cap3, hSp⟩
          have hN4 := hP.next hne (lk_i := hlki) hSp
          have x4 : w4.cell? ⟨b1, o1 + i, none⟩ = some (.bool true) := hlk1.out w4 hN4.st.below
          clear hSp hP h1 hS1 hex1
          go_wp2_with (go_at_call 6; refine (line_any (nameS i) true 0 _ (Nat.le_trans (nameS_le i (by omega)) (by decide)) hr0.1 hr0.2).mono ?_)
          rintro e w5 ⟨gl, cl, rfl, hOl, hb5⟩
          have hN5 := hN4.later hb5
          clear hN4 hb5
          go_wp2_with (at_builtin; refine wpList_sl_at rfl _ _ rfl w.heap.size _ _ _ rfl hN5.row _ _ _ (Lib.byteCells (lineL (nameS i) true 0)) rfl ?g0 hOl.cells (bytes_one _) ?g3 ?g4 hN5.st.hB ?_)
          case g0 => simp [Lib.byteCells]
          case g3 => have := lineN_len i (by omega) true 0 hr0; unfold maxLen; omega
          case g4 => have := lineN_len i (by omega) true 0 hr0; omega
          intro ex6 w6 hex6 hg6
          have hN6 := hN5.grew hex6 hg6
          clear hN5 hOl hg6 hex6
          go_wp2_with fail
          go_roundw
          case rel => exact ⟨i + 1, by omega, by go_num, hN6.rel (lineN_len i (by omega) true 0 hr0) hL⟩
          case measure => simp [intOf]; omega

        | false =>
          have hlk1 : Hid (∀ W, Below w.heap.size w W → W.cell? ⟨b1, o1 + i, none⟩ = some (.bool false)) := fun W hW => by rw [hlk0 W hW, hlki]
          clear hlk0 HLK
          have hr0 : -9223372036854775808 ≤ (0 : Int) ∧ (0 : Int) ≤ 9223372036854775807 := by omega
          go_wp2_with (go_at_call 8; refine (itoa_any i wr (by omega) (by omega)).mono ?_)
          rintro e w1 ⟨adn, capn, rfl, hOn, hbn⟩
          have h1 := h.later hbn
          have hS1 := hSb.to fun cs hc => hc.below hbn hc.lt
          have hex1 := own_later5 hex hbn
          have hrd : (convert 22 9 (.slice (some adn) (Lib.itoa i).length capn)).run Ybad.prog w1 = .ok (.string ⟨(Lib.itoa i).toArray⟩) w1 := reads_own hOn
          have x1 : w1.cell? ⟨b1, o1 + i, none⟩ = some (.bool false) := hlk1.out w1 h1.below
          have hz1 := h1.db.lt
          clear hOn hbn
          have hil : ((Lib.itoa (i : Int)).length : Int) ≤ 21 := Int.ofNat_le.2 (Lib.itoa_length_le (i : Int) (by omega) (by omega))
          have hcat : ∀ W : World, (Op.stringOp .add ⟨#[84]⟩ ⟨(Lib.itoa (i : Int)).toArray⟩).run Ybad.prog W = .ok (.string (nameS i)) W := nameS_run i (by omega)
          have yS : w1.cell? ⟨w.heap.size + 1, i, none⟩ = some (.pointer none) := hS1.cell hlt
          have yF : w1.frozen? ⟨w.heap.size + 1, i, none⟩ = false := hS1.free i
          have hzS : w.heap.size + 1 < w1.heap.size := hS1.lt
          have q1 : b1 ≠ w.heap.size + 1 := by omega
          have q2 : b1 < w1.heap.size := by omega
          go_wp2_with fail
          have hP := St.pre h1 hS1 hlt hex1 (nameS i) (by omega)
          refine (start_noG w.heap.size w.heap.size w1.heap.size L.length (cnt lk i) (.slice ado L.length capo) adw capw (Lib.byteCells L) tk (nameS i) 0 0 (wrap64 (wts + i)) cs (txN (nameS i)) _ hP.st.db hP.st.c80 hP.st.c83 hP.st.c84 hP.st.c87 hP.tx rfl ⟨_, rfl⟩ hP.st.out hP.st.wk (Nat.le_refl _) (by omega) (by omega) (by omega) (Nat.le_trans (nameS_le i (by omega)) (by decide)) (by have := cnt_le lk i; omega) hr0.1 hr0.2 (HT.out.on hP.st.below)).mono ?_
          rintro e w4 ⟨rfl, cs', ad, cap, ad3, cap3, hSp⟩
          have hN4 := hP.next hne (lk_i := hlki) hSp
          have x4 : w4.cell? ⟨b1, o1 + i, none⟩ = some (.bool false) := hlk1.out w4 hN4.st.below
          clear hSp hP h1 hS1 hex1
          go_wp2_with (go_at_call 6; refine (line_any (nameS i) false 0 _ (Nat.le_trans (nameS_le i (by omega)) (by decide)) hr0.1 hr0.2).mono ?_)
          rintro e w5 ⟨gl, cl, rfl, hOl, hb5⟩
          have hN5 := hN4.later hb5
          clear hN4 hb5
          go_wp2_with (at_builtin; refine wpList_sl_at rfl _ _ rfl w.heap.size _ _ _ rfl hN5.row _ _ _ (Lib.byteCells (lineL (nameS i) false 0)) rfl ?g0 hOl.cells (bytes_one _) ?g3 ?g4 hN5.st.hB ?_)
          case g0 => simp [Lib.byteCells]
          case g3 => have := lineN_len i (by omega) false 0 hr0; unfold maxLen; omega
          case g4 => have := lineN_len i (by omega) false 0 hr0; omega
          intro ex6 w6 hex6 hg6
          have hN6 := hN5.grew hex6 hg6
          clear hN5 hOl hg6 hex6
          go_wp2_with fail
          go_roundw
          case rel => exact ⟨i + 1, by omega, by go_num, hN6.rel (lineN_len i (by omega) false 0 hr0) hL⟩
          case measure => simp [intOf]; omega

    · obtain rfl : N = i := by omega
      have d80 := h.db.cell 1080 h.c80
      have d84 := h.db.cell 1084 h.c84
      have hr1 : Reads wr (.slice ado L.length capo) L := reads_own h.out
      have hr2 : Reads wr u9 L := reads_own hex
      go_wp2_with (go_at_call 7; refine (equal_yes _ _ _ _ hr1 hr2).mono ?_; rintro e w' ⟨rfl, rfl⟩)
      go_loopw [15, 16, 17] (fun j q _ wz => ∃ i : Nat, i ≤ N ∧ q = .int .i64 i ∧ j = .int .i64 (cnt lk i : Nat) ∧ Below wr.heap.size wr wz) (fun _ q _ _ => N - (intOf q).toNat)
      case atStart => exact ⟨0, Nat.zero_le _, rfl, rfl, Below.refl _ _⟩
      case round =>
        clear d80 d84 hr1 hr2
        obtain ⟨i, hin, rfl, rfl, hb⟩ := hrel
        have hz := h.later hb
        have d83 := hz.db.cell 1083 hz.c83
        have hcl := cnt_le lk N
        have hci := cnt_le lk i
        by_cases hlt : i < N
        · have hSz := hSb.to fun cs hc => hc.below hb hc.lt
          obtain ⟨tc, wc, t1, t2, t3, t4, t5⟩ := hz.tx i hlt
          have s1 := hSz.old hlt
          have s2 := t1.cell 13 t2
          have s3 := t3.cell 0 t4
          have s4 := t3.cell 7 t5
          have e5 : wrap64 (wts + i + 1) = IntKind.i64.wrap (IntKind.i64.wrap (wts + i) + 1) := by simp only [IntKind.wrap_i64]; unfold wrap64; omega
          rw [e5] at s4
          have u2 := neq_wt
          have u3 := neq_tx
          obtain ⟨b1, o1, rfl, hbb, x1⟩ := HLK.out _ hz.below i hlt
          cases hlki : lk i with
          | true =>
            rw [hlki] at x1
            have hc := cnt_lt lk i hlki N hlt
            have hwk := hz.wk
            obtain ⟨gw, rfl⟩ := own5_some hwk (by omega)
            have y2 := own5_cell hwk (cnt lk i) 2 hc (by decide) (hz.tkw i hlt hlki)
            have e6 : cnt lk (i + 1) = cnt lk i + 1 := by simp [cnt, hlki, cntL]
            clear h hz hSb hSz hex hne hL hwk t1 t2 t3 t4 t5 HLK HVS HR HT e5
            go_wp2_with fail
            go_quiet (fail)
            go_wp2
            go_roundw
            case rel => exact ⟨i + 1, by omega, by go_num, by rw [e6]; go_num, below_drewN hb _⟩
            case measure => simp [intOf]; omega
          | false =>
            rw [hlki] at x1
            have e6 : cnt lk (i + 1) = cnt lk i := by simp [cnt, hlki, cntL]
            clear h hz hSb hSz hex hne hL t1 t2 t3 t4 t5 HLK HVS HR HT e5
            go_wp2_with fail
            go_quiet (fail)
            go_wp2
            go_roundw
            case rel => exact ⟨i + 1, by omega, by go_num, by rw [e6], below_drewN hb _⟩
            case measure => simp [intOf]; omega
        · obtain rfl : N = i := by omega
          go_wp2
          go_ret
          exact ⟨by simp, h.below.trans (hb.mono h.hB)⟩
end Go.Proofs.YbulkcvviDoor

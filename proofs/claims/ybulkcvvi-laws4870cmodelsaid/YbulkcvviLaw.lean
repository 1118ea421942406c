/- The law's walk. -/
import Derived.Test.YbulkcvviSt3
import Derived.Deep.QuietTactic
import Derived.BigQuiet
import Derived.Deep.DeepCutAuto
namespace Go.Proofs.Ybulkcvvi
open Go.RowKit
theorem info4 : (Yba.prog.info? 4).map (fun i => (i.zero, i.size, i.bytes)) = some (some (.bool false), 1, 1) := by kernel_rfl
theorem info47 : (Yba.prog.info? 47).map (fun i => (i.zero, i.size, i.bytes)) = some (some (.agg #[.pointer none, .int .i64 0]), 2, 16) := by kernel_rfl

set_option maxRecDepth 100000 in
set_option maxHeartbeats 1000000 in
theorem law (a0 a1 : Option Addr) (len0 cap0 len1 cap1 N : Nat) (all : Bool) (E S : Nat → Bool) (Wh : Nat → Nat) (w : World) (hl0 : len0 ≤ 1024) (hl1 : len1 ≤ 1024) (hN : N = if len0 = 0 then 1 else len0)
    (h0 : 0 < len0 → ∃ b o, a0 = some ⟨b, o, none⟩ ∧ ∀ W, Below w.heap.size w W → ∀ i, i < len0 → W.cell? ⟨b, o + i, none⟩ = some (.bool (E i)))
    (h1 : 0 < len1 → ∃ b o, a1 = some ⟨b, o, none⟩ ∧ ∀ W, Below w.heap.size w W → ∀ i, i < len1 → W.cell? ⟨b, o + i * 2, none⟩ = some (.int .u8 (Wh i : Int)) ∧ W.cell? ⟨b, o + i * 2 + 1, none⟩ = some (.bool (S i)))
    (hWh : ∀ i, Wh i < 256) :
    Calls Yba.prog 3 #[.slice a0 len0 cap0, .slice a1 len1 cap1, .bool all] w fun e w' => e = .returned (.bool true) ∧ Below w.heap.size w w' := by
  have hN1 : 1 ≤ N := by rw [hN]; split <;> omega
  have hN2 : N ≤ 1024 := by rw [hN]; split <;> omega
  have hN3 : len0 ≤ N := by rw [hN]; split <;> omega
  have HN : Hid (N = if len0 = 0 then 1 else len0) := hN
  clear hN
  obtain ⟨i4, hi4, hy0, hy1, hy2⟩ := info_parts info4
  obtain ⟨i29, hi29, hz0, hz1, hz2⟩ := info_parts info29
  obtain ⟨i47, hi47, hx0, hx1, hx2⟩ := info_parts info47
  have H0 : Hid (0 < len0 → _) := h0
  have H1 : Hid (0 < len1 → _) := h1
  clear h0 h1
  obtain ⟨X, hX⟩ : ∃ X : Nat → Bool, X = fun j => decide (j < len0) && E j := ⟨_, rfl⟩
  have HX : Hid (X = fun j => decide (j < len0) && E j) := hX
  clear hX
  have hnp := neq_ptr
  have hpl := eqIn_place
  go_enter Yba.func3, Yba.ntmps3
  go_upto_if 36 with fail
  go_cut [7] (fun v w' => v = .int .i64 N ∧ w' = w)
  case first =>
    by_cases e : len0 = 0
    · subst e
      have e2 : N = 1 := HN.out
      subst e2
      go_wp2
      go_meet
      case rel => exact ⟨rfl, rfl⟩
    · have e2 : N = len0 := by rw [HN.out, if_neg e]
      subst e2
      go_wp2
      go_meet
      case rel => exact ⟨rfl, rfl⟩
  case rest =>
    obtain ⟨rfl, hwc⟩ := hcut
    subst wc
    go_wp2_with (at_make; refine wpList_make_rows _ rfl _ _ 24 rfl 29 i29 (.pointer none) 1 Yba.underlying24 hi29 hz0 hz1 .i64 .i64 _ _ N rfl rfl (by omega) (by omega) ?b2 ?b3 ?_)
    case b2 => first | (rw [hz2]; omega) | omega
    case b3 => unfold maxLen; omega
    intro w1 hB1 hs1 hb1
    go_wp2_with (at_make; refine wpList_make_rows _ rfl _ _ 25 rfl 4 i4 (.bool false) 1 Yba.underlying25 hi4 hy0 hy1 .i64 .i64 _ _ N rfl rfl (by omega) (by omega) ?b4 ?b5 ?_)
    case b4 => first | (rw [hy2]; omega) | omega
    case b5 => unfold maxLen; omega
    intro w2 hB2 hs2 hb2
    have hS0 : St1 w w2 N 0 X := by
      refine ⟨⟨by omega, hb1.trans (hb2.mono (by omega)), ⟨_, hB1.below hb2 (by have := hB1.lt; omega), by simpa using length_made #[.pointer none] N, fun j hj => by omega, fun j _ hj => by rw [toList_madeCells_one]; simp [hj]⟩, fun j hj => by omega⟩, ⟨_, hB2, by simpa using length_made #[.bool false] N, fun j hj => ?_⟩⟩
      rw [toList_madeCells_one]; simp [hj]
    clear hB1 hB2 hb1 hb2 hs2
    go_wp2_with fail
    go_loopw [10] (fun s wr => ∃ i : Nat, i ≤ N ∧ s = .int .i64 i ∧ St1 w wr N i X) (fun s _ => N - (intOf s).toNat)
    case atStart => exact ⟨0, Nat.zero_le _, rfl, hS0⟩
    case round =>
      obtain ⟨i, hi, rfl, hS⟩ := hrel
      clear hS0
      by_cases hlt : i < N
      · obtain ⟨cu1, hT, hTl, _, hTn⟩ := hS.1.ts
        obtain ⟨cu2, hE, hEl, hEc⟩ := hS.2
        have t0 := hT.cell i (hTn i (Nat.le_refl _) hlt)
        have tf := hT.free i
        have e0 := hE.cell i (hEc i hlt)
        have ef := hE.free i
        have hzz : w.heap.size + 1 < wr.heap.size := by have := hS.1.size; omega
        have hzz0 : w.heap.size < wr.heap.size := by omega
        clear hT hE hTl hEl hEc hTn
        by_cases hlt2 : i < len0
        · obtain ⟨b, o, rfl, hcell⟩ := H0.out (by omega)
          have c0 := hcell wr hS.1.below i hlt2
          cases hEi : E i with
          | true =>
            have HEi : Hid (X i = true) := by rw [Hid, HX.out]; simp [hlt2, hEi]
            rw [hEi] at c0
            clear hEi
            go_wp2
            go_roundw
            case rel => exact ⟨i + 1, by omega, by go_num, hS.step_t hlt HEi.out _ (by simp [txnC]; rfl) _ rfl⟩
            case measure => simp [intOf]; omega
          | false =>
            have HEi : Hid (X i = false) := by rw [Hid, HX.out]; simp [hEi]
            rw [hEi] at c0
            clear hEi
            go_wp2
            go_roundw
            case rel => exact ⟨i + 1, by omega, by go_num, hS.step_f hlt HEi.out _ (by simp [txnC]; rfl) _ rfl⟩
            case measure => simp [intOf]; omega
        · have HEi : Hid (X i = false) := by rw [Hid, HX.out]; simp [hlt2]
          go_wp2
          go_roundw
          case rel => exact ⟨i + 1, by omega, by go_num, hS.step_f hlt HEi.out _ (by simp [txnC]; rfl) _ rfl⟩
          case measure => simp [intOf]; omega
      · obtain rfl : N = i := by omega
        clear hlt hi
        have hwr := hS.1.size
        go_wp2_with (at_make; refine wpList_make_rows _ rfl _ _ 43 rfl 47 i47 (.agg #[.pointer none, .int .i64 0]) 2 Yba.underlying43 hi47 hx0 hx1 .i64 .i64 _ _ len1 rfl rfl (by omega) (by omega) ?b6 ?b7 ?_)
        case b6 => first | (rw [hx2]; omega) | omega
        case b7 => unfold maxLen; omega
        intro w3 hB3 hs3 hb3
        have hS2 : St2 w w3 N len1 0 X (fun j => Wh j % N) S := hS.next (by rw [hwr]; exact hB3) (by rw [hwr]; exact hs3) (by rw [hwr]; exact hb3)
        clear hB3 hb3 hS hs3
        go_wp2_with fail
        go_loopw [13] (fun s wr => ∃ i : Nat, i ≤ len1 ∧ s = .int .i64 i ∧ St2 w wr N len1 i X (fun j => Wh j % N) S) (fun s _ => len1 - (intOf s).toNat)
        case atStart => exact ⟨0, Nat.zero_le _, rfl, hS2⟩
        case round =>
          obtain ⟨i, hi, rfl, hS⟩ := hrel
          clear hS2
          by_cases hlt : i < len1
          · obtain ⟨b, o, rfl, hcell⟩ := H1.out (by omega)
            obtain ⟨c0, c1⟩ := hcell wr hS.below i hlt
            obtain ⟨k, HK⟩ : ∃ k, Hid (k = Wh i % N) := ⟨_, rfl⟩
            have hkN : k < N := by rw [HK.out]; exact Nat.mod_lt _ hN1
            have hkI : ((Wh i : Nat) : Int) % (N : Int) = (k : Int) := by rw [HK.out]; simp
            have hw8 := hWh i
            obtain ⟨cu1, hT, _, hTc⟩ := hS.ts
            have t0 := hT.cell k (hTc k hkN)
            obtain ⟨cu2, hP, _, _, hPc⟩ := hS.ps
            obtain ⟨pc0, pc1⟩ := hPc i (Nat.le_refl _) hlt
            have p0 := hP.cell _ pc0
            have p1 := hP.cell _ pc1
            have pf0 := hP.free (i * 2)
            have pf1 := hP.free (i * 2 + 1)
            clear hT hTc hP hPc pc0 pc1
            unfold ptr at t0
            cases hSi : S i with
            | true =>
              have HSi : Hid (S i = true) := hSi
              rw [hSi] at c1
              clear hSi
              go_wp2
              go_roundw
              case rel => exact ⟨i + 1, by omega, by go_num, hS.step hlt _ _ (by simp only [ptr]; rw [HK.out]) (by rw [HSi.out, HK.out]; simp)⟩
              case measure => simp [intOf]; omega
            | false =>
              have HSi : Hid (S i = false) := hSi
              rw [hSi] at c1
              clear hSi
              go_wp2
              go_roundw
              case rel => exact ⟨i + 1, by omega, by go_num, hS.step hlt _ _ (by simp only [ptr]; rw [HK.out]) (by rw [HSi.out, HK.out]; simp)⟩
              case measure => simp [intOf]; omega
          · obtain rfl : len1 = i := by omega
            clear hlt hi
            have hwr2 := hS.size
            obtain ⟨cur, hBp, hBl, hBc, _⟩ := hS.ps
            have HBo : Hid (∀ v ∈ cur, v.oneCell' = true) := places_one hBl hBc
            have HBl : Hid (cur.length = len1 * 2) := hBl
            clear hBl hBc
            go_wp2_with (at_make; refine wpList_make_rows _ rfl _ _ 43 rfl 47 i47 (.agg #[.pointer none, .int .i64 0]) 2 Yba.underlying43 hi47 hx0 hx1 .i64 .i64 _ _ len1 rfl rfl (by omega) (by omega) ?b8 ?b9 ?_)
            case b8 => first | (rw [hx2]; omega) | omega
            case b9 => unfold maxLen; omega
            intro w5 hB5 hs5 hb5
            have hb5' : Below wr.heap.size wr w5 := by rw [hwr2]; exact hb5
            have hs5' : w5.heap.size = wr.heap.size + 1 := by rw [hwr2]; exact hs5
            have hBp5 := hBp.below hb5' (by have := hBp.lt; omega)
            have HS5 : Hid (w5.heap.size = wr.heap.size + 1) := hs5'
            have HB5 : Hid (Below wr.heap.size wr w5) := hb5'
            clear hs5' hb5'
            go_wp2_with (refine wpList_copy_rows rfl (.tmp 108) (.tmp 109) 43 43 rfl 47 Yba.underlying43 2 (by rw [hi47]; simp [hx1]) _ (w.heap.size + 2 + N) len1 rfl rfl _ 47 hB5 cur 47 hBp5 HBl.out ?d1 ?d2 ?_)
            case d1 => simpa using length_made _ _
            case d2 => exact HBo.out
            intro w6 hB6 hs6 hb6 _
            have hSx := fun cs hcs => hS.done cur hBp HS5.out HB5.out (by rw [hwr2]; exact hB6) (by rw [HS5.out, hwr2]; exact hs6) (by rw [hwr2]; exact hb6) cs hcs
            clear hS hBp HS5 HB5 hB6 hb6 hB5 hb5 hBp5 HBo HBl
            go_wp2_with fail
            have hS3 := hSx #[.int .i64 3, .slice none 0 0, .slice (some ⟨w.heap.size + 2 + N, 0, none⟩) len1 len1, .slice none 0 0, .slice none 0 0, .int .i64 0, .bool false, .slice none 0 0, .slice none 0 0, .slice none 0 0, .int .i64 0, .bool false, .int .i64 0, .int .i64 0, .slice none 0 0] rfl
            clear hSx
            go_loopw [18, 19] (fun v s wr => ∃ (i : Nat) (Wl : List Nat), i ≤ len1 ∧ Wl.length ≤ i ∧ s = .int .i64 i ∧ wr.ownsRow (w.heap.size + 5 + N) 29 1 v Wl.length (Wl.map (ptr (w.heap.size + 2))) ∧ St3 w wr N len1 X (fun j => Wh j % N) S ∧ Hid (Wl ++ wl all X ((plc len1 (fun j => Wh j % N) S).drop i) = wl all X (plc len1 (fun j => Wh j % N) S))) (fun _ s _ => len1 - (intOf s).toNat)
            case atStart => exact ⟨0, [], Nat.zero_le _, Nat.le_refl _, rfl, World.ownsRow_nil _ _ _ _, hS3, by simp [Hid]⟩
            case round =>
              obtain ⟨i, Wl, hi, hWl, rfl, hown, hSr, HW⟩ := hrel
              clear hS3
              by_cases hlt : i < len1
              · obtain ⟨b, o, rfl, hcell⟩ := H1.out (by omega)
                obtain ⟨c0, c1⟩ := hcell wr hSr.below i hlt
                obtain ⟨k, HK⟩ : ∃ k, Hid (k = Wh i % N) := ⟨_, rfl⟩
                have hkN : k < N := by rw [HK.out]; exact Nat.mod_lt _ hN1
                have hkI : ((Wh i : Nat) : Int) % (N : Int) = (k : Int) := by rw [HK.out]; simp
                have hw8 := hWh i
                have HD : Hid (wl all X ((plc len1 (fun j => Wh j % N) S).drop i) = if S i then wl all X ((plc len1 (fun j => Wh j % N) S).drop (i + 1)) else k :: (if !all && X k then [] else wl all X ((plc len1 (fun j => Wh j % N) S).drop (i + 1)))) := by
                  rw [HK.out]; exact wl_drop (plc_get hlt)
                cases hSi : S i with
                | true =>
                  have HD2 : Hid (Wl ++ wl all X ((plc len1 (fun j => Wh j % N) S).drop (i + 1)) = wl all X (plc len1 (fun j => Wh j % N) S)) := by
                    have h1 := HW.out; rw [HD.out, hSi] at h1; simpa [Hid] using h1
                  rw [hSi] at c1
                  clear hSi HD HW
                  go_wp2
                  go_roundw
                  case rel => exact ⟨i + 1, Wl, by omega, by omega, by go_num, hown, hSr, HD2⟩
                  case measure => simp [intOf]; omega
                | false =>
                  have HD1 : Hid (Wl ++ k :: (if !all && X k then [] else wl all X ((plc len1 (fun j => Wh j % N) S).drop (i + 1))) = wl all X (plc len1 (fun j => Wh j % N) S)) := by
                    have h1 := HW.out; rw [HD.out, hSi] at h1; simpa [Hid] using h1
                  rw [hSi] at c1
                  clear hSi HD HW
                  obtain ⟨cu1, hT, _, hTc⟩ := hSr.ts
                  have t0 := hT.cell k (hTc k hkN)
                  clear hT hTc
                  unfold ptr at t0
                  have hszr := hSr.size
                  have hszr0 : w.heap.size < wr.heap.size := by omega
                  go_wp2_with (at_builtin; refine wpList_append_own _ rfl _ _ 24 rfl (w.heap.size + 5 + N) 29 i29 (.pointer none) 1 8 Yba.underlying24 hi29 hz0 hz1 hz2 rfl (by decide) _ _ _ rfl (hown.alloc _) ⟨wr.heap.size, 0, none⟩ 1 1 [.pointer (some ⟨w.heap.size + 2 + k, 0, none⟩)] rfl rfl (cell_one_new _ _ _) ?c2 ?c3 ?c4 ?c5 ?_)
                  case c2 => intro u hu; simp at hu; subst hu; rfl
                  case c3 => unfold maxLen; omega
                  case c4 => omega
                  case c5 => simp; omega
                  intro v' w7 hown2 hgrow2 _
                  have hbq : Below (w.heap.size + 5 + N) wr w7 := ((Below.refl _ _).alloc (by omega) _).grown hgrow2 (by simp; omega) (fun b hb => (hown.lt b hb).1)
                  have hSq := hSr.later hbq (by omega)
                  have hown3 : w7.ownsRow (w.heap.size + 5 + N) 29 1 v' (Wl ++ [k]).length ((Wl ++ [k]).map (ptr (w.heap.size + 2))) := by simpa [ptr] using hown2
                  obtain ⟨cu2, hE, _, hEc⟩ := hSq.ex
                  have e0 := hE.cell k (hEc k hkN)
                  clear hown2 hgrow2 hbq hSr hown t0 hE hEc c0 c1
                  cases all with
                  | true =>
                    go_wp2
                    go_roundw
                    case rel => exact ⟨i + 1, Wl ++ [k], by omega, by simp; omega, by go_num, hown3, hSq, by simpa [Hid] using HD1.out⟩
                    case measure => simp [intOf]; omega
                  | false =>
                    cases hXk : X k with
                    | false =>
                      rw [hXk] at e0
                      have HD3 : Hid ((Wl ++ [k]) ++ wl false X ((plc len1 (fun j => Wh j % N) S).drop (i + 1)) = wl false X (plc len1 (fun j => Wh j % N) S)) := by
                        have h1 := HD1.out; rw [hXk] at h1; simpa [Hid] using h1
                      clear hXk HD1
                      go_wp2
                      go_roundw
                      case rel => exact ⟨i + 1, Wl ++ [k], by omega, by simp; omega, by go_num, hown3, hSq, HD3⟩
                      case measure => simp [intOf]; omega
                    | true =>
                      rw [hXk] at e0
                      have HWl : Hid (Wl ++ [k] = wl false X (plc len1 (fun j => Wh j % N) S)) := by
                        have h1 := HD1.out; rw [hXk] at h1; simpa [Hid] using h1
                      clear hXk HD1
                      have hown := hown3
                      have hSr := hSq
                      clear hown3 hSq
                      obtain ⟨L, HLe⟩ : ∃ L, Hid (L = wl false X (plc len1 (fun j => Wh j % N) S)) := ⟨_, rfl⟩
                      rw [HWl.out, ← HLe.out] at hown
                      clear HWl
                      obtain ⟨adw, capw, rfl⟩ := own_shape hown
                      have hq3 := hSr.qf (fun j _ => Nat.mod_lt _ hN1)
                      go_wp2_with (go_at_call 4; refine (queued_any _ _ _ len1 X (plc len1 (fun j => Wh j % N) S) false _ hq3 hl1).mono ?_)
                      rintro e w7 ⟨v7, rfl, hown7, hb7⟩
                      have hS7 := hSr.later hb7 hSr.size
                      have hownW7 := own_later hown hb7
                      rw [← HLe.out] at hown7
                      clear hown hSr hb7 hq3
                      obtain ⟨ad7, cap7, rfl⟩ := own_shape hown7
                      go_wp2_with fail
                      go_loopw [22] (fun s wq => ∃ i q : Nat, i ≤ L.length ∧ s = .int .i64 i ∧ wq = w7.drewN q) (fun s _ => L.length - (intOf s).toNat)
                      case atStart => exact ⟨0, 0, Nat.zero_le _, rfl, rfl⟩
                      case round =>
                        obtain ⟨i4, q4, hi4, rfl, rfl⟩ := hrel
                        by_cases hlt4 : i4 < L.length
                        · obtain ⟨g7, rfl⟩ := own_some hown7 (by omega)
                          obtain ⟨gw, rfl⟩ := own_some hownW7 (by omega)
                          obtain ⟨t, Ht⟩ : ∃ t, Hid (t = L.getD i4 0) := ⟨_, rfl⟩
                          have x7 : w7.cell? ⟨g7, i4, none⟩ = some (.pointer (some ⟨w.heap.size + 2 + t, 0, none⟩)) := by rw [Ht.out]; exact own_cell hown7 i4 hlt4
                          have xw : w7.cell? ⟨gw, i4, none⟩ = some (.pointer (some ⟨w.heap.size + 2 + t, 0, none⟩)) := by rw [Ht.out]; exact own_cell hownW7 i4 hlt4
                          have hLl : L.length ≤ 1024 := by rw [HLe.out]; exact Nat.le_trans (wl_le _ _ _) (by rw [plc_length]; exact hl1)
                          go_wp2_with fail
                          go_quiet (fail)
                          go_wp2
                          go_roundw
                          case rel => exact ⟨i4 + 1, _, by omega, by go_num, rfl⟩
                          case measure => simp [intOf]; omega
                        · clear hown7 hownW7 hi4
                          have lk := hS7.lock
                          go_wp2_with fail
                          go_loopw [23] (fun s wq => ∃ i q : Nat, i ≤ len1 ∧ s = .int .i64 i ∧ wq = w7.drewN q) (fun s _ => len1 - (intOf s).toNat)
                          case atStart => exact ⟨0, q4, Nat.zero_le _, rfl, rfl⟩
                          case round =>
                            obtain ⟨i5, q5, hi5, rfl, rfl⟩ := hrel
                            by_cases hlt5 : i5 < len1
                            · obtain ⟨cu5, hP5, hP6, hPc⟩ := hS7.ps
                              obtain ⟨pc0, pc1⟩ := hPc i5 hlt5
                              obtain ⟨tk, Htk⟩ : ∃ tk : Int, Hid (tk = if S i5 then -((((fun j => Wh j % N) i5 : Nat) : Int) + 1) else (((fun j => Wh j % N) i5 : Nat) : Int) + 1) := ⟨_, rfl⟩
                              obtain ⟨tp, Htp⟩ : ∃ tp : Nat, Hid (tp = w.heap.size + 2 + (fun j => Wh j % N) i5) := ⟨_, rfl⟩
                              have p0 : w7.cell? ⟨w.heap.size + 2 + N, i5 * 2, none⟩ = some (.pointer (some ⟨tp, 0, none⟩)) := by rw [Htp.out]; exact hP5.cell _ pc0
                              have p1 : w7.cell? ⟨w.heap.size + 2 + N, i5 * 2 + 1, none⟩ = some (.int .i64 tk) := by rw [Htk.out]; exact hP5.cell _ pc1
                              have p2 : w7.cell? ⟨w.heap.size + 3 + N, i5 * 2, none⟩ = some (.pointer (some ⟨tp, 0, none⟩)) := by rw [Htp.out]; exact hP6.cell _ pc0
                              have p3 : w7.cell? ⟨w.heap.size + 3 + N, i5 * 2 + 1, none⟩ = some (.int .i64 tk) := by rw [Htk.out]; exact hP6.cell _ pc1
                              have lk := hS7.lock
                              clear hP5 hP6 hPc pc0 pc1
                              go_wp2_with fail
                              go_quiet (fail)
                              go_wp2
                              go_roundw
                              case rel => exact ⟨i5 + 1, _, by omega, by go_num, rfl⟩
                              case measure => simp [intOf]; omega
                            · go_wp2_with fail
                              go_loopw [24] (fun s wq => ∃ i q : Nat, i ≤ N ∧ s = .int .i64 i ∧ wq = w7.drewN q) (fun s _ => N - (intOf s).toNat)
                              case atStart => exact ⟨0, q5, Nat.zero_le _, rfl, rfl⟩
                              case round =>
                                obtain ⟨i6, q6, hi6, rfl, rfl⟩ := hrel
                                by_cases hlt6 : i6 < N
                                · obtain ⟨cu6, hT6, _, hTc6⟩ := hS7.ts
                                  have t6 := hT6.cell i6 (hTc6 i6 hlt6)
                                  have x6 := (hS7.tx i6 hlt6).cell 17 rfl
                                  unfold ptr at t6
                                  clear hT6 hTc6
                                  go_wp2
                                  go_roundw
                                  case rel => exact ⟨i6 + 1, q6, by omega, by go_num, rfl⟩
                                  case measure => simp [intOf]; omega
                                · go_wp2
                                  go_ret
                                  exact ⟨rfl, below_drewN hS7.below _⟩
              · obtain rfl : len1 = i := by omega
                have HWl : Hid (Wl = wl all X (plc len1 (fun j => Wh j % N) S)) := by
                  have h1 := HW.out
                  rw [List.drop_eq_nil_of_le (by rw [plc_length]; omega)] at h1
                  simpa [wl, Hid] using h1
                clear HW hlt hi hWl
                obtain ⟨L, HLe⟩ : ∃ L, Hid (L = wl all X (plc len1 (fun j => Wh j % N) S)) := ⟨_, rfl⟩
                rw [HWl.out, ← HLe.out] at hown
                clear HWl
                obtain ⟨adw, capw, rfl⟩ := own_shape hown
                have hq3 := hSr.qf (fun j _ => Nat.mod_lt _ hN1)
                go_wp2_with (go_at_call 4; refine (queued_any _ _ _ len1 X (plc len1 (fun j => Wh j % N) S) all _ hq3 hl1).mono ?_)
                rintro e w7 ⟨v7, rfl, hown7, hb7⟩
                have hS7 := hSr.later hb7 hSr.size
                have hownW7 := own_later hown hb7
                rw [← HLe.out] at hown7
                clear hown hSr hb7 hq3
                obtain ⟨ad7, cap7, rfl⟩ := own_shape hown7
                go_wp2_with fail
                go_loopw [22] (fun s wq => ∃ i q : Nat, i ≤ L.length ∧ s = .int .i64 i ∧ wq = w7.drewN q) (fun s _ => L.length - (intOf s).toNat)
                case atStart => exact ⟨0, 0, Nat.zero_le _, rfl, rfl⟩
                case round =>
                  obtain ⟨i4, q4, hi4, rfl, rfl⟩ := hrel
                  by_cases hlt4 : i4 < L.length
                  · obtain ⟨g7, rfl⟩ := own_some hown7 (by omega)
                    obtain ⟨gw, rfl⟩ := own_some hownW7 (by omega)
                    obtain ⟨t, Ht⟩ : ∃ t, Hid (t = L.getD i4 0) := ⟨_, rfl⟩
                    have x7 : w7.cell? ⟨g7, i4, none⟩ = some (.pointer (some ⟨w.heap.size + 2 + t, 0, none⟩)) := by rw [Ht.out]; exact own_cell hown7 i4 hlt4
                    have xw : w7.cell? ⟨gw, i4, none⟩ = some (.pointer (some ⟨w.heap.size + 2 + t, 0, none⟩)) := by rw [Ht.out]; exact own_cell hownW7 i4 hlt4
                    have hLl : L.length ≤ 1024 := by rw [HLe.out]; exact Nat.le_trans (wl_le _ _ _) (by rw [plc_length]; exact hl1)
                    go_wp2_with fail
                    go_quiet (fail)
                    go_wp2
                    go_roundw
                    case rel => exact ⟨i4 + 1, _, by omega, by go_num, rfl⟩
                    case measure => simp [intOf]; omega
                  · clear hown7 hownW7 hi4
                    have lk := hS7.lock
                    go_wp2_with fail
                    go_loopw [23] (fun s wq => ∃ i q : Nat, i ≤ len1 ∧ s = .int .i64 i ∧ wq = w7.drewN q) (fun s _ => len1 - (intOf s).toNat)
                    case atStart => exact ⟨0, q4, Nat.zero_le _, rfl, rfl⟩
                    case round =>
                      obtain ⟨i5, q5, hi5, rfl, rfl⟩ := hrel
                      by_cases hlt5 : i5 < len1
                      · obtain ⟨cu5, hP5, hP6, hPc⟩ := hS7.ps
                        obtain ⟨pc0, pc1⟩ := hPc i5 hlt5
                        obtain ⟨tk, Htk⟩ : ∃ tk : Int, Hid (tk = if S i5 then -((((fun j => Wh j % N) i5 : Nat) : Int) + 1) else (((fun j => Wh j % N) i5 : Nat) : Int) + 1) := ⟨_, rfl⟩
                        obtain ⟨tp, Htp⟩ : ∃ tp : Nat, Hid (tp = w.heap.size + 2 + (fun j => Wh j % N) i5) := ⟨_, rfl⟩
                        have p0 : w7.cell? ⟨w.heap.size + 2 + N, i5 * 2, none⟩ = some (.pointer (some ⟨tp, 0, none⟩)) := by rw [Htp.out]; exact hP5.cell _ pc0
                        have p1 : w7.cell? ⟨w.heap.size + 2 + N, i5 * 2 + 1, none⟩ = some (.int .i64 tk) := by rw [Htk.out]; exact hP5.cell _ pc1
                        have p2 : w7.cell? ⟨w.heap.size + 3 + N, i5 * 2, none⟩ = some (.pointer (some ⟨tp, 0, none⟩)) := by rw [Htp.out]; exact hP6.cell _ pc0
                        have p3 : w7.cell? ⟨w.heap.size + 3 + N, i5 * 2 + 1, none⟩ = some (.int .i64 tk) := by rw [Htk.out]; exact hP6.cell _ pc1
                        have lk := hS7.lock
                        clear hP5 hP6 hPc pc0 pc1
                        go_wp2_with fail
                        go_quiet (fail)
                        go_wp2
                        go_roundw
                        case rel => exact ⟨i5 + 1, _, by omega, by go_num, rfl⟩
                        case measure => simp [intOf]; omega
                      · go_wp2_with fail
                        go_loopw [24] (fun s wq => ∃ i q : Nat, i ≤ N ∧ s = .int .i64 i ∧ wq = w7.drewN q) (fun s _ => N - (intOf s).toNat)
                        case atStart => exact ⟨0, q5, Nat.zero_le _, rfl, rfl⟩
                        case round =>
                          obtain ⟨i6, q6, hi6, rfl, rfl⟩ := hrel
                          by_cases hlt6 : i6 < N
                          · obtain ⟨cu6, hT6, _, hTc6⟩ := hS7.ts
                            have t6 := hT6.cell i6 (hTc6 i6 hlt6)
                            have x6 := (hS7.tx i6 hlt6).cell 17 rfl
                            unfold ptr at t6
                            clear hT6 hTc6
                            go_wp2
                            go_roundw
                            case rel => exact ⟨i6 + 1, q6, by omega, by go_num, rfl⟩
                            case measure => simp [intOf]; omega
                          · go_wp2
                            go_ret
                            exact ⟨rfl, below_drewN hS7.below _⟩
end Go.Proofs.Ybulkcvvi

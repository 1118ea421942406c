/- slices.BinarySearchFunc over lapses; Turns.lapse, Turns.letsBack. -/
import Derived.Test.YbulkcvteFmtMissed
namespace Go.Proofs.YbulkcvteFmt
open Go.RowKit
set_option linter.unusedVariables false

theorem size31 : (Ybaf.prog.info? 31).map (·.size) = some 3 := by kernel_rfl
theorem size83 : (Ybaf.prog.info? 83).map (·.size) = some 3 := by kernel_rfl
def vals (La : List Lap) : List Int := La.map Lap.v
theorem vals_len (La : List Lap) : (vals La).length = La.length := by simp [vals]
theorem vals_get {La : List Lap} {k : Nat} (hk : k < La.length) : (vals La).getD k 0 = (lapAt La k).v := by simp [vals, lapAt, List.getD, hk]
/-- The lapse of member m. -/
def lapseOf (La : List Lap) (m : Int) : Lap := if hasB (vals La) m then lapAt La (bsPos (vals La) m) else ⟨m, 0, 0⟩
/-- The members are small numbers. -/
def Small (La : List Lap) : Prop := ∀ x ∈ La, -1048576 ≤ x.v ∧ x.v ≤ 1048576

theorem lapAt_mem {La : List Lap} {k : Nat} (hk : k < La.length) : lapAt La k ∈ La := by simp [lapAt, List.getD, hk]

set_option maxRecDepth 100000 in
set_option maxHeartbeats 4000000 in
theorem cmp44 (x : Lap) (m : Int) (w : World) (hx : -1048576 ≤ x.v ∧ x.v ≤ 1048576) (hm : -1048576 ≤ m ∧ m ≤ 1048576) :
    Calls Ybaf.prog 44 #[.agg #[.int .i64 x.v, .int .u16 x.m, .int .u64 x.b], .int .i64 m] w fun e w' => e = .returned (.int .i64 (x.v - m)) ∧ Below w.heap.size w w' := by
  obtain ⟨x1, x2, x3⟩ := x
  obtain ⟨hx1, hx2⟩ := hx
  obtain ⟨hm1, hm2⟩ := hm
  simp only at hx1 hx2
  go_enter Ybaf.func44, Ybaf.ntmps44
  go_wp2
  go_ret
  exact ⟨rfl, (Below.refl _ _).alloc (Nat.le_refl _) _⟩

set_option maxRecDepth 100000 in
set_option maxHeartbeats 4000000 in
theorem bsf43 (l : Value) (La : List Lap) (m : Int) (w : World) (hl : Laps w l La) (hL : La.length ≤ 1024) (hsm : Small La) (hm : -1048576 ≤ m ∧ m ≤ 1048576) :
    Calls Ybaf.prog 43 #[l, .int .i64 m, .func (.func 44) #[] #[]] w fun e w' => e = .returned (.tuple #[.int .i64 (bsPos (vals La) m), .bool (hasB (vals La) m)]) ∧ Below w.heap.size w w' := by
  obtain ⟨a, c, rfl, _, _, hat⟩ := hl
  have HA : Hid (AtL w a La) := hat
  have HS : Hid (Small La) := hsm
  clear hat hsm
  have hn' := vals_len La
  generalize hn : La.length = n at *
  have HN : Hid (La.length = n) := hn
  have HV : Hid ((vals La).length = n) := hn'
  have HM : Hid (-1048576 ≤ m ∧ m ≤ 1048576) := hm
  obtain ⟨hm1, hm2⟩ := hm
  clear hn hn'
  go_enter Ybaf.func43, Ybaf.ntmps43
  go_wp2
  go_loopw [9, 10, 11] (fun p q _ wr => ∃ lo hi : Nat, lo ≤ hi ∧ hi ≤ n ∧ p = .int .i64 lo ∧ q = .int .i64 hi ∧ Below w.heap.size w wr ∧ ∃ k, hi - lo ≤ k ∧ Hid (bsGo (vals La) m k lo hi = bsPos (vals La) m)) (fun p q _ _ => ((intOf q) - (intOf p)).toNat)
  case atStart => exact ⟨0, n, Nat.zero_le _, Nat.le_refl _, rfl, rfl, Below.refl _ _, n, by omega, by unfold bsPos; rw [HV.out]; rfl⟩
  case round =>
    obtain ⟨lo, hi, hlh, hhn, rfl, rfl, hb, k, hk, HB⟩ := hrel
    by_cases hlt : lo < hi
    · obtain ⟨mi, hmi⟩ : ∃ mi, mi = (lo + hi) / 2 := ⟨_, rfl⟩
      have hm3 : lo ≤ mi := by omega
      have hm4 : mi < hi := by omega
      have hcv : ((lo : Int) + hi) / 2 = mi := by omega
      obtain ⟨b, o, rfl, _, hc1, hc2, hc3⟩ := HA.out.later hb mi (by rw [HN.out]; omega)
      have hxs := HS.out _ (lapAt_mem (La := La) (k := mi) (by rw [HN.out]; omega))
      have hvg := vals_get (La := La) (k := mi) (by rw [HN.out]; omega)
      generalize lapAt La mi = y at hc1 hc2 hc3 hxs hvg
      have HY : Hid _ := hvg
      have HX : Hid _ := hxs
      have HMI : Hid (mi = (lo + hi) / 2) := hmi
      obtain ⟨hy1, hy2⟩ := hxs
      clear hvg hmi
      obtain ⟨k, rfl⟩ : ∃ k', k = k' + 1 := ⟨k - 1, by omega⟩
      by_cases hyx : y.v < m
      · have hneg : y.v - m < 0 := by omega
        go_wp2_with (go_at_call 44; refine (cmp44 y m _ HX.out HM.out).mono ?_; rintro e w2 ⟨rfl, hb2⟩)
        go_roundw
        case rel =>
          refine ⟨mi + 1, hi, by omega, hhn, by go_num, by go_num, below_trans hb hb2, k, by omega, ?_⟩
          have h2 := HB.out
          rw [bsGo_step hk hlt, ← HMI.out, HY.out, if_pos hyx] at h2
          exact h2
        case measure => simp [intOf]; omega
      · have hneg : ¬ y.v - m < 0 := by omega
        go_wp2_with (go_at_call 44; refine (cmp44 y m _ HX.out HM.out).mono ?_; rintro e w2 ⟨rfl, hb2⟩)
        go_roundw
        case rel =>
          refine ⟨lo, mi, by omega, by omega, by go_num, by go_num, below_trans hb hb2, k, by omega, ?_⟩
          have h2 := HB.out
          rw [bsGo_step hk hlt, ← HMI.out, HY.out, if_neg (by omega)] at h2
          exact h2
        case measure => simp [intOf]; omega
    · obtain rfl : lo = hi := by omega
      have hpos : bsPos (vals La) m = lo := by
        rw [← HB.out]
        cases k with
        | zero => rfl
        | succ k => rw [bsGo, if_neg (Nat.lt_irrefl _)]
      have HP : Hid (bsPos (vals La) m = lo) := hpos
      clear hpos
      by_cases hln : lo < n
      · obtain ⟨b, o, rfl, _, hc1, hc2, hc3⟩ := HA.out.later hb lo (by rw [HN.out]; omega)
        have hxs := HS.out _ (lapAt_mem (La := La) (k := lo) (by rw [HN.out]; omega))
        have hvg := vals_get (La := La) (k := lo) (by rw [HN.out]; omega)
        generalize lapAt La lo = y at hc1 hc2 hc3 hxs hvg
        have HY : Hid _ := hvg
        have HX : Hid _ := hxs
        obtain ⟨hy1, hy2⟩ := hxs
        clear hvg
        by_cases hyx : y.v = m
        · have hz : (y.v - m == 0) = true := by simp; omega
          have HYX : Hid _ := hyx
          clear hyx
          go_wp2_with (go_at_call 44; refine (cmp44 y m _ HX.out HM.out).mono ?_; rintro e w2 ⟨rfl, hb2⟩)
          go_ret2
          refine ⟨?_, below_trans hb hb2⟩
          have e1 := HP.out
          have e2 := HV.out
          have e3 := HY.out
          have e4 := HYX.out
          simp only [hasB, e1, e2, e3, hln, e4]
          simp
        · have hz : (y.v - m == 0) = false := by simp; omega
          have hyx' : (y.v == m) = false := by simpa using hyx
          go_wp2_with (go_at_call 44; refine (cmp44 y m _ HX.out HM.out).mono ?_; rintro e w2 ⟨rfl, hb2⟩)
          go_ret2
          refine ⟨?_, below_trans hb hb2⟩
          have e1 := HP.out
          have e2 := HV.out
          have e3 := HY.out
          simp only [hasB, e1, e2, e3, hln, hyx']
          simp
      · go_wp2
        go_ret2
        refine ⟨?_, hb⟩
        have e1 := HP.out
        have e2 := HV.out
        simp only [hasB, e1, e2, hln]
        simp

set_option maxRecDepth 100000 in
set_option maxHeartbeats 4000000 in
theorem lapse34 (s p l : Value) (S Pa : List Int) (La : List Lap) (m : Int) (w : World) (ht : Tn w s p l S Pa La) (hL : La.length ≤ 1024) (hsm : Small La) (hm : -1048576 ≤ m ∧ m ≤ 1048576) :
    Calls Ybaf.prog 34 #[.agg #[s, p, l], .int .i64 m] w fun e w' => e = .returned (.agg #[.int .i64 (lapseOf La m).v, .int .u16 (lapseOf La m).m, .int .u64 (lapseOf La m).b]) ∧ Below w.heap.size w w' := by
  have HT : Hid (Tn w s p l S Pa La) := ht
  obtain ⟨sa, sc, rfl, _, _, _⟩ := ht.s
  obtain ⟨pa, pc, rfl, _, _, _⟩ := ht.p
  obtain ⟨la, lc, rfl, _, _, _⟩ := ht.l
  have HS : Hid (Small La) := hsm
  have HM : Hid (-1048576 ≤ m ∧ m ≤ 1048576) := hm
  clear ht hsm hm
  have hb0 : ∀ o o', Below w.heap.size w ((w.alloc o).alloc o') := fun o o' => below_alloc ((Below.refl _ _).alloc (Nat.le_refl _) _) _
  cases hq : hasB (vals La) m with
  | false =>
    have HQ : Hid _ := hq
    have hres : lapseOf La m = ⟨m, 0, 0⟩ := by unfold lapseOf; rw [hq]; rfl
    rw [hres]
    clear hq hres
    go_enter Ybaf.func34, Ybaf.ntmps34
    go_wp2_with (go_at_call 43; refine (bsf43 _ La m _ (HT.out.l.later (hb0 _ _)) hL HS.out HM.out).mono ?_; rw [HQ.out]; rintro e w2 ⟨rfl, hb2⟩; have hB1 : Blk w2 (w.heap.size + 1) 31 [.int .i64 0, .int .u16 0, .int .u64 0] := (show Blk ((w.alloc _).alloc (.cells #[.int .i64 0, .int .u16 0, .int .u64 0] 31)) (w.heap.size + 1) 31 _ from (by simpa using Blk.new (w.alloc (.cells #[.slice sa S.length sc, .slice pa Pa.length pc, .slice la La.length lc] 83)) 31 #[.int .i64 0, .int .u16 0, .int .u64 0])).later hb2; have hc0 := hB1.cell 0 rfl; have hc1 := hB1.cell 1 rfl; have hc2 := hB1.cell 2 rfl; have hf0 := hB1.free 0; have hf1 := hB1.free 1; have hf2 := hB1.free 2; have HB1 := Hid.mk hB1; clear hB1; have hbw := below_trans (hb0 _ _) hb2)
    refine bodyPost_ret (results_cell_row rfl _ _ (w.heap.size + 1) 31 #[.int .i64 m, .int .u16 0, .int .u64 0] (0, 0) _ rfl (((HB1.out.set 0 _).set 1 _).set 2 _) Ybaf.underlying31 rfl size31) rfl ?_
    exact ⟨rfl, ((hbw.setCell (p := ⟨w.heap.size + 1, 0, none⟩) (Nat.le_succ _) _).setCell (p := ⟨w.heap.size + 1, 1, none⟩) (Nat.le_succ _) _).setCell (p := ⟨w.heap.size + 1, 2, none⟩) (Nat.le_succ _) _⟩
  | true =>
    have HQ : Hid _ := hq
    have hlt : bsPos (vals La) m < La.length := by
      have h1 := hq
      unfold hasB at h1
      rw [vals_len] at h1
      simp at h1
      exact h1.1
    have hres : lapseOf La m = lapAt La (bsPos (vals La) m) := by unfold lapseOf; rw [hq]; rfl
    rw [hres]
    generalize hk : bsPos (vals La) m = k at hlt ⊢
    have HK : Hid _ := hk
    obtain ⟨y, hy⟩ : ∃ y, y = lapAt La k := ⟨_, rfl⟩
    have HY : Hid _ := hy
    rw [← hy]
    clear hq hres hk hy
    obtain ⟨y1, y2, y3⟩ := y
    have hbox : Hid (∀ W, Below (w.heap.size + 1) (w.alloc (.cells #[.slice sa S.length sc, .slice pa Pa.length pc, .slice la La.length lc] 83)) W → W.cell? ⟨w.heap.size, 2, none⟩ = some (.slice la La.length lc)) := fun W hW => cell_new rfl hW
    go_enter Ybaf.func34, Ybaf.ntmps34
    go_wp2_with (go_at_call 43; refine (bsf43 _ La m _ (HT.out.l.later (hb0 _ _)) hL HS.out HM.out).mono ?_; rw [HQ.out, HK.out]; rintro e w2 ⟨rfl, hb2⟩; have hB1 : Blk w2 (w.heap.size + 1) 31 [.int .i64 0, .int .u16 0, .int .u64 0] := (show Blk ((w.alloc _).alloc (.cells #[.int .i64 0, .int .u16 0, .int .u64 0] 31)) (w.heap.size + 1) 31 _ from (by simpa using Blk.new (w.alloc (.cells #[.slice sa S.length sc, .slice pa Pa.length pc, .slice la La.length lc] 83)) 31 #[.int .i64 0, .int .u16 0, .int .u64 0])).later hb2; have hc0 := hB1.cell 0 rfl; have hc1 := hB1.cell 1 rfl; have hc2 := hB1.cell 2 rfl; have hf0 := hB1.free 0; have hf1 := hB1.free 1; have hf2 := hB1.free 2; have HB1 := Hid.mk hB1; clear hB1; have hbw := below_trans (hb0 _ _) hb2; obtain ⟨a', c', ea, _, _, hat⟩ := HT.out.l.later hbw; simp only [Value.slice.injEq] at ea; obtain ⟨rfl, _, rfl⟩ := ea; obtain ⟨b, o, rfl, hbl, k1, k2, k3⟩ := hat k hlt; rw [← HY.out] at k1 k2 k3; simp only at k1 k2 k3; have hx2 := hbox.out w2 (((Below.refl _ _).alloc (by simp) _).trans (hb2.mono (by simp))); clear hat)
    refine bodyPost_ret (results_cell_row rfl _ _ (w.heap.size + 1) 31 #[.int .i64 y1, .int .u16 y2, .int .u64 y3] (0, 0) _ rfl (((HB1.out.set 0 _).set 1 _).set 2 _) Ybaf.underlying31 rfl size31) rfl ?_
    exact ⟨rfl, ((hbw.setCell (p := ⟨w.heap.size + 1, 0, none⟩) (Nat.le_succ _) _).setCell (p := ⟨w.heap.size + 1, 1, none⟩) (Nat.le_succ _) _).setCell (p := ⟨w.heap.size + 1, 2, none⟩) (Nat.le_succ _) _⟩
end Go.Proofs.YbulkcvteFmt

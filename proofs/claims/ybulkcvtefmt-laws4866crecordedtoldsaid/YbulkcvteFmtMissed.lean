/- slices.Sort at Set, over a row of the call's own; Turns.missed. -/
import Derived.Test.YbulkcvteFmtTurns
import Derived.Sort.OwnSortedInts
namespace Go.Proofs.YbulkcvteFmt
open Go.RowKit Go.Sort
set_option linter.unusedVariables false

def leI (x y : Int) : Bool := decide (x ≤ y)
/-- Sorted, ascending. -/
def srt (L : List Int) : List Int := L.mergeSort fun x y => decide (x ≤ y)
theorem srt_len (L : List Int) : (srt L).length = L.length := List.length_mergeSort _

theorem sort31 (v : Value) (L : List Int) (B : Nat) (w : World) (h : OwnI w B v L) (hL : L.length ≤ 1048576) (hB : B ≤ w.heap.size) :
    Calls Ybaf.prog 31 #[v] w fun e w' => e = .returned (.tuple #[]) ∧ OwnI w' B v (srt L) ∧ Below B w w' := by
  obtain ⟨hl, ⟨rfl, hn⟩ | ⟨g, cap, cur, rfl, hg, hh, hc, hm, hsz, ht⟩⟩ := h
  · have hn' : L = [] := List.eq_nil_of_length_eq_zero hn
    subst hn'
    refine (AnyM.slices_Sort_int_none Ybaf.sort31 none 0 w).mono ?_
    rintro e w' ⟨rfl, rfl⟩
    exact ⟨rfl, by simpa [srt] using OwnI.nil _ _, Below.refl _ _⟩
  · have hH : Holds (Value.int .i64) w g 0 L.toArray := holds_of_blockI hh (by rw [Nat.mul_one] at ht; exact ht)
    refine (AnyM.slices_Sort_int Ybaf.sort31 g 0 cap L w hH (lt_of_block hh) (by omega)).mono ?_
    rintro e w' ⟨rfl, n, os, rfl⟩
    refine ⟨rfl, ?_, (Below.refl B w).grown (grownBy_sortedI _) hB (fun k hk => by simp at hk; omega)⟩
    have h1 := ownsRow_sortedI (w := w) (base := B) (g := g) (cap := cap) (n := n) (os := os) (ss := L) (ts := srt L) (srt_len L) hg hh hc hm hsz
    unfold OwnI
    rw [srt_len]
    exact h1

/-- What missed gathers, ahead of the sort. -/
def missPre (S Pa : List Int) (h n : Nat) : List Int := (if hasB Pa (S.getD (spos S.length h 0) 0) then [S.getD (spos S.length h 0) 0] else []) ++ (List.range n).map (spk S Pa h)
def missedOf (S Pa : List Int) (h v : Nat) : List Int := srt (missPre S Pa h (min v (liveOf S Pa).length))
theorem missPre_succ (S Pa : List Int) (h n : Nat) : missPre S Pa h (n + 1) = missPre S Pa h n ++ [spk S Pa h n] := by simp [missPre, List.range_succ]
theorem missPre_len (S Pa : List Int) (h n : Nat) : (missPre S Pa h n).length ≤ n + 1 := by
  unfold missPre
  split <;> simp <;> omega

set_option maxRecDepth 100000 in
set_option maxHeartbeats 4000000 in
theorem missed23 (s p l : Value) (S Pa : List Int) (La : List Lap) (h v : Nat) (w : World) (ht : Tn w s p l S Pa La) (hf : Fit S Pa La) (hh : h < 18446744073709551616) (hv : v < 4294967296) :
    Calls Ybaf.prog 23 #[.agg #[s, p, l], .int .u64 h, .int .u32 v] w fun e w' => ∃ r, e = .returned r ∧ OwnI w' w.heap.size r (missedOf S Pa h v) ∧ Below w.heap.size w w' := by
  have HT : Hid (Tn w s p l S Pa La) := ht
  obtain ⟨sa, sc, rfl, _, _, hats⟩ := ht.s
  obtain ⟨pa, pc, rfl, _, _, _⟩ := ht.p
  obtain ⟨la, lc, rfl, _, _, _⟩ := ht.l
  have HF : Hid (Fit S Pa La) := hf
  have hs0 := hf.s0
  have hs1 := hf.s1
  clear ht hf
  have hlt := spos_lt (h := h) (v := 0) hs0
  obtain ⟨b, o, rfl, hbl, hcell⟩ := hats _ hlt
  unfold cellI at hcell
  have hb0 : ∀ o, Below w.heap.size w (w.alloc o) := fun o => (Below.refl _ _).alloc (Nat.le_refl _) _
  have h0 := HF.out.v0
  have h1 := HF.out.v1
  obtain ⟨pm, hpm⟩ : ∃ pm, pm = S.getD (spos S.length h 0) 0 := ⟨_, rfl⟩
  rw [← hpm] at hcell
  have HPM : Hid _ := hpm
  generalize hk : spos S.length h 0 = k at hlt hcell hpm
  have HK : Hid _ := hk
  clear hk hats hpm
  generalize hN : (liveOf S Pa).length = N at *
  have HN : Hid _ := hN
  clear hN
  have hbox : Hid (∀ W, Below (w.heap.size + 1) (w.alloc (.cells #[.slice (some ⟨b, o, none⟩) S.length sc, .slice pa Pa.length pc, .slice la La.length lc] 83)) W → W.cell? ⟨w.heap.size, 0, none⟩ = some (.slice (some ⟨b, o, none⟩) S.length sc) ∧ W.cell? ⟨w.heap.size, 1, none⟩ = some (.slice pa Pa.length pc) ∧ W.cell? ⟨w.heap.size, 2, none⟩ = some (.slice la La.length lc)) := fun W hW => ⟨cell_new rfl hW, cell_new rfl hW, cell_new rfl hW⟩
  have HPOS : Hid (∀ W, Calls Ybaf.prog 36 #[.int .i64 S.length, .int .u64 h, .int .u32 0] W fun e w' => e = .returned (.int .i64 k) ∧ ∃ q, w' = W.drewN q) := fun W => by
    have h2 := position36 S.length h 0 W hs0 (by omega) hh (by omega)
    rw [HK.out] at h2
    exact h2
  have hPM : hasB Pa (S.getD (spos S.length h 0) 0) = hasB Pa pm := by rw [HPM.out]
  have HP0 : Hid (missPre S Pa h 0 = if hasB Pa pm then [pm] else []) := by
    unfold missPre
    rw [← HPM.out]
    simp [Hid]
  clear hPM
  go_enter Ybaf.func23, Ybaf.ntmps23
  go_wp2_with fail
  go_quiet (first | (go_at_call 36; refine Calls.quiet_of (HPOS.out _)))
  obtain ⟨mm, hmm⟩ : ∃ mm : Nat, mm = min v N := ⟨_, rfl⟩
  have hmin : min (v : Int) (N : Int) = (mm : Int) := by omega
  have hmm1 : mm ≤ N := by omega
  have HMM : Hid (mm = min v N) := hmm
  clear hmm
  cases hq : hasB Pa pm with
  | true =>
    have HQ : Hid _ := hq
    rw [hq] at HP0
    clear hq
    go_wp2_with (first
      | (go_at_call 30; refine (has30 _ Pa _ _ (HT.out.p.later (below_drewN (hb0 _) _)) (by have := HF.out.p1; omega)).mono ?_; rw [HQ.out]; rintro e w3 ⟨rfl, hw3⟩; have hB1 : Below (w.heap.size + 1) (w.alloc (.cells #[.slice (some ⟨b, o, none⟩) S.length sc, .slice pa Pa.length pc, .slice la La.length lc] 83)) w3 := (by rw [hw3]; exact below_drewN (Below.refl _ _) _); clear hw3; have hw3s : w.heap.size + 1 ≤ w3.heap.size := (by simpa using hB1.size))
      | (at_builtin; refine app27 rfl _ _ rfl (w.heap.size + 1) _ [] rfl (OwnI.nil _ _) pm rfl (by simp) (by omega) ?_; intro x' w4 hown4 hb4; have hB4 := hB1.trans hb4; have hbw4 : Below w.heap.size w w4 := (hb0 _).trans (hB4.mono (Nat.le_succ _)); obtain ⟨d0, d1, d2⟩ := hbox.out w4 hB4)
      | (go_at_call 32; refine (live32 _ _ _ S Pa la La.length lc _ (HT.out.s.later hbw4) (HT.out.p.later hbw4) rfl ⟨HF.out.s0, by have := HF.out.s1; omega⟩ (by have := HF.out.p1; omega)).mono ?_; rintro e w1 ⟨r, rfl, hr, hb1⟩; obtain ⟨ra, rc, rfl, _, _, hat⟩ := hr; rw [HN.out]; clear hat))
    go_loopw [7, 9, 33] (fun x _ q wr => ∃ u : Nat, u ≤ mm ∧ q = .int .u32 u ∧ Below (w.heap.size + 1) (w.alloc (.cells #[.slice (some ⟨b, o, none⟩) S.length sc, .slice pa Pa.length pc, .slice la La.length lc] 83)) wr ∧ OwnI wr (w.heap.size + 1) x (missPre S Pa h u)) (fun _ _ q _ => mm - (intOf q).toNat)
    case atStart => exact ⟨0, Nat.zero_le _, rfl, hB4.trans (hb1.mono (by have := hB4.size; simpa using this)), (by rw [HP0.out]; exact hown4.later hb1)⟩
    case round =>
      obtain ⟨u, hu, rfl, hb, hown⟩ := hrel
      obtain ⟨c0, c1, c2⟩ := hbox.out wr hb
      have hbw : Below w.heap.size w wr := (hb0 _).trans (hb.mono (Nat.le_succ _))
      have hsz : w.heap.size + 1 ≤ wr.heap.size := by simpa using hb.size
      have hlen := missPre_len S Pa h u
      clear d0 d1 d2
      by_cases hum : u < mm
      · go_wp2_with (first
          | (go_at_call 33; refine (speaker33 _ _ _ S Pa La h u _ (HT.out.later hbw) HF.out hh (by omega)).mono ?_; rintro e w5 ⟨rfl, hb5⟩; have hown5 := hown.later hb5; have hbb := hb.trans (hb5.mono hsz); have hs5 := hb5.size)
          | (at_builtin; refine app27 rfl _ _ rfl (w.heap.size + 1) _ _ rfl hown5 (spk S Pa h u) rfl (by omega) (by omega) ?_; intro x' w6 hown6 hb6))
        go_roundw
        case rel => exact ⟨u + 1, by omega, by go_num, hbb.trans hb6, by rw [missPre_succ]; exact hown6⟩
        case measure => simp [intOf]; omega
      · obtain rfl : u = mm := by omega
        go_wp2_with (go_at_call 31; refine (sort31 _ _ (w.heap.size + 1) _ hown (by omega) hsz).mono ?_; rintro e w7 ⟨rfl, hown7, hb7⟩)
        go_ret
        refine ⟨_, rfl, ?_, hbw.trans (hb7.mono (Nat.le_succ _))⟩
        have hfin : srt (missPre S Pa h u) = missedOf S Pa h v := by unfold missedOf; rw [HN.out, ← HMM.out]
        rw [hfin] at hown7
        obtain ⟨h1, h2 | ⟨g, cap, cur, he, hg, hr⟩⟩ := hown7
        · exact ⟨h1, .inl h2⟩
        · exact ⟨h1, .inr ⟨g, cap, cur, he, by omega, hr⟩⟩
  | false =>
    have HQ : Hid _ := hq
    rw [hq] at HP0
    clear hq
    go_wp2_with (first
      | (go_at_call 30; refine (has30 _ Pa _ _ (HT.out.p.later (below_drewN (hb0 _) _)) (by have := HF.out.p1; omega)).mono ?_; rw [HQ.out]; rintro e w3 ⟨rfl, hw3⟩; have hB1 : Below (w.heap.size + 1) (w.alloc (.cells #[.slice (some ⟨b, o, none⟩) S.length sc, .slice pa Pa.length pc, .slice la La.length lc] 83)) w3 := (by rw [hw3]; exact below_drewN (Below.refl _ _) _); clear hw3; have hw3s : w.heap.size + 1 ≤ w3.heap.size := (by simpa using hB1.size); have hbw4 : Below w.heap.size w w3 := (hb0 _).trans (hB1.mono (Nat.le_succ _)); obtain ⟨d0, d1, d2⟩ := hbox.out w3 hB1)
      | (go_at_call 32; refine (live32 _ _ _ S Pa la La.length lc _ (HT.out.s.later hbw4) (HT.out.p.later hbw4) rfl ⟨HF.out.s0, by have := HF.out.s1; omega⟩ (by have := HF.out.p1; omega)).mono ?_; rintro e w1 ⟨r, rfl, hr, hb1⟩; obtain ⟨ra, rc, rfl, _, _, hat⟩ := hr; rw [HN.out]; clear hat))
    go_loopw [7, 9, 33] (fun x _ q wr => ∃ u : Nat, u ≤ mm ∧ q = .int .u32 u ∧ Below (w.heap.size + 1) (w.alloc (.cells #[.slice (some ⟨b, o, none⟩) S.length sc, .slice pa Pa.length pc, .slice la La.length lc] 83)) wr ∧ OwnI wr (w.heap.size + 1) x (missPre S Pa h u)) (fun _ _ q _ => mm - (intOf q).toNat)
    case atStart => exact ⟨0, Nat.zero_le _, rfl, hB1.trans (hb1.mono (by have := hB1.size; simpa using this)), (by rw [HP0.out]; exact OwnI.nil _ _)⟩
    case round =>
      obtain ⟨u, hu, rfl, hb, hown⟩ := hrel
      obtain ⟨c0, c1, c2⟩ := hbox.out wr hb
      have hbw : Below w.heap.size w wr := (hb0 _).trans (hb.mono (Nat.le_succ _))
      have hsz : w.heap.size + 1 ≤ wr.heap.size := by simpa using hb.size
      have hlen := missPre_len S Pa h u
      clear d0 d1 d2
      by_cases hum : u < mm
      · go_wp2_with (first
          | (go_at_call 33; refine (speaker33 _ _ _ S Pa La h u _ (HT.out.later hbw) HF.out hh (by omega)).mono ?_; rintro e w5 ⟨rfl, hb5⟩; have hown5 := hown.later hb5; have hbb := hb.trans (hb5.mono hsz); have hs5 := hb5.size)
          | (at_builtin; refine app27 rfl _ _ rfl (w.heap.size + 1) _ _ rfl hown5 (spk S Pa h u) rfl (by omega) (by omega) ?_; intro x' w6 hown6 hb6))
        go_roundw
        case rel => exact ⟨u + 1, by omega, by go_num, hbb.trans hb6, by rw [missPre_succ]; exact hown6⟩
        case measure => simp [intOf]; omega
      · obtain rfl : u = mm := by omega
        go_wp2_with (go_at_call 31; refine (sort31 _ _ (w.heap.size + 1) _ hown (by omega) hsz).mono ?_; rintro e w7 ⟨rfl, hown7, hb7⟩)
        go_ret
        refine ⟨_, rfl, ?_, hbw.trans (hb7.mono (Nat.le_succ _))⟩
        have hfin : srt (missPre S Pa h u) = missedOf S Pa h v := by unfold missedOf; rw [HN.out, ← HMM.out]
        rw [hfin] at hown7
        obtain ⟨h1, h2 | ⟨g, cap, cur, he, hg, hr⟩⟩ := hown7
        · exact ⟨h1, .inl h2⟩
        · exact ⟨h1, .inr ⟨g, cap, cur, he, by omega, hr⟩⟩
end Go.Proofs.YbulkcvteFmt

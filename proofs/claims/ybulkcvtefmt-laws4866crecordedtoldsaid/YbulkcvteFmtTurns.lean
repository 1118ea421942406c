/- Turns: Speaker, proposedIn, missed; MaxFaulty, hold. -/
import Derived.Test.YbulkcvteFmtCan
namespace Go.Proofs.YbulkcvteFmt
open Go.RowKit
set_option linter.unusedVariables false

/-- The cell at a place of a slice that is written out. -/
theorem Ints.at' {w : World} {a : Option Addr} {c : Nat} {L : List Int} (h : Ints w (.slice a L.length c) L) {i : Nat} (hi : i < L.length) : ∃ b o, a = some ⟨b, o, none⟩ ∧ b < w.heap.size ∧ w.cell? ⟨b, o + i, none⟩ = some (.int .i64 (L.getD i 0)) := by
  obtain ⟨a', c', e, _, _, hat⟩ := h
  simp only [Value.slice.injEq] at e
  obtain ⟨rfl, _, _⟩ := e
  exact hat i hi

theorem maxFaulty29 (n : Nat) (w : World) (hn : 0 < n) (hn2 : n ≤ 1048576) : Calls Ybaf.prog 29 #[.int .i64 n] w fun e w' => e = .returned (.int .i64 (((n - 1) / 3 : Nat) : Int)) ∧ w' = w := by
  have e1 : (((n - 1) / 3 : Nat) : Int) = ((n : Int) - 1) / 3 := by omega
  rw [e1]
  have e2 : Int.tdiv ((n : Int) - 1) 3 = ((n : Int) - 1) / 3 := Int.tdiv_eq_ediv_of_nonneg (by omega)
  go_enter Ybaf.func29, Ybaf.ntmps29
  go_wp2
  go_ret
  exact ⟨rfl, rfl⟩

/-- How long a member stays passed over. -/
def holdOf (m : Int) (n : Nat) : Int := if m = 0 then 0 else if m = 1 then n else if m = 2 then 4 * n else 16 * n
set_option maxRecDepth 100000 in
theorem hold35 (m : Nat) (n : Nat) (w : World) (hm : m < 65536) (hn2 : n ≤ 1024) : Calls Ybaf.prog 35 #[.int .u16 m, .int .i64 n] w fun e w' => e = .returned (.int .u64 (holdOf m n)) ∧ w' = w := by
  by_cases h0 : m = 0
  · subst h0
    go_enter Ybaf.func35, Ybaf.ntmps35
    go_wp2
    go_ret
    exact ⟨rfl, rfl⟩
  · by_cases h1 : m = 1
    · subst h1
      have h6 : min (0 : Int) 2 = 0 := by decide
      go_enter Ybaf.func35, Ybaf.ntmps35
      go_wp2
      go_ret
      exact ⟨rfl, rfl⟩
    · by_cases h2 : m = 2
      · subst h2
        have h6 : min (1 : Int) 2 = 1 := by decide
        have h7 : holdOf (2 : Nat) n = (n : Int) * 4 := by unfold holdOf; simp; omega
        rw [h7]
        clear h7
        go_enter Ybaf.func35, Ybaf.ntmps35
        go_wp2
        go_ret
        exact ⟨rfl, rfl⟩
      · have h5 : ((m : Int) == 0) = false := by simpa using h0
        have h6 : min ((m : Int) - 1) 2 = 2 := by omega
        have h7 : holdOf m n = (n : Int) * 16 := by
          unfold holdOf
          rw [if_neg (by omega), if_neg (by omega), if_neg (by omega)]
          omega
        rw [h7]
        clear h7
        go_enter Ybaf.func35, Ybaf.ntmps35
        go_wp2
        go_ret
        exact ⟨rfl, rfl⟩

/-- Who speaks in view v of height h. -/
def spk (S Pa : List Int) (h v : Nat) : Int := (liveOf S Pa).getD (spos (liveOf S Pa).length h v) 0

/-- The three slices of a Turns, as they read. -/
structure Tn (w : World) (s p l : Value) (S Pa : List Int) (La : List Lap) : Prop where
  s : Ints w s S
  p : Ints w p Pa
  l : Laps w l La
theorem Tn.later {w w' : World} {s p l : Value} {S Pa : List Int} {La : List Lap} (h : Tn w s p l S Pa La) (hb : Below w.heap.size w w') : Tn w' s p l S Pa La := ⟨h.s.later hb, h.p.later hb, h.l.later hb⟩
/-- What is known of the lists. -/
structure Fit (S Pa : List Int) (La : List Lap) : Prop where
  s0 : 0 < S.length
  s1 : S.length ≤ 16
  p1 : Pa.length ≤ 16
  l1 : La.length ≤ 16
  v0 : 0 < (liveOf S Pa).length
theorem Fit.v1 {S Pa : List Int} {La : List Lap} (h : Fit S Pa La) : (liveOf S Pa).length ≤ 16 := Nat.le_trans (List.length_filter_le _ _) h.s1

theorem cell_new {w : World} {t : TypeId} {cs : Array Value} {i : Nat} {v : Value} (h : cs[i]? = some v) {W : World} (hb : Below (w.heap.size + 1) (w.alloc (.cells cs t)) W) : W.cell? ⟨w.heap.size, i, none⟩ = some v := by
  rw [hb.cell (Nat.lt_succ_self _)]
  exact (Blk.new w t cs).cell i (by simpa using h)

set_option maxRecDepth 100000 in
set_option maxHeartbeats 4000000 in
theorem speaker33 (s p l : Value) (S Pa : List Int) (La : List Lap) (h v : Nat) (w : World) (ht : Tn w s p l S Pa La) (hf : Fit S Pa La) (hh : h < 18446744073709551616) (hv : v < 4294967296) :
    Calls Ybaf.prog 33 #[.agg #[s, p, l], .int .u64 h, .int .u32 v] w fun e w' => e = .returned (.int .i64 (spk S Pa h v)) ∧ Below w.heap.size w w' := by
  have HT : Hid (Tn w s p l S Pa La) := ht
  obtain ⟨sa, sc, rfl, _, _, _⟩ := ht.s
  obtain ⟨pa, pc, rfl, _, _, _⟩ := ht.p
  obtain ⟨la, lc, rfl, _, _, _⟩ := ht.l
  have HF : Hid (Fit S Pa La) := hf
  clear ht hf
  have hb0 : ∀ o, Below w.heap.size w (w.alloc o) := fun o => (Below.refl _ _).alloc (Nat.le_refl _) _
  have h0 := HF.out.v0
  have h1 := HF.out.v1
  have hlt := spos_lt (h := h) (v := v) h0
  have hy0 : spk S Pa h v = (liveOf S Pa).getD (spos (liveOf S Pa).length h v) 0 := rfl
  generalize spk S Pa h v = y at hy0 ⊢
  generalize hk : spos (liveOf S Pa).length h v = k at hlt hy0
  have HK : Hid _ := hk
  have HY : Hid _ := hy0
  clear hk hy0
  generalize hN : (liveOf S Pa).length = N at *
  have HN : Hid _ := hN
  clear hN
  go_enter Ybaf.func33, Ybaf.ntmps33
  go_wp2_with (first
    | (go_at_call 32; refine (live32 _ _ _ S Pa la La.length lc _ (HT.out.s.later (hb0 _)) (HT.out.p.later (hb0 _)) rfl ⟨HF.out.s0, by have := HF.out.s1; omega⟩ (by have := HF.out.p1; omega)).mono ?_; rintro e w1 ⟨r, rfl, hr, hb1⟩; obtain ⟨ra, rc, rfl, _, _, hat⟩ := hr; rw [HN.out] at hat ⊢; obtain ⟨rb, ro, era, _, hc⟩ := hat k hlt; subst era; unfold cellI at hc; rw [← HY.out] at hc; have hbw := below_trans (hb0 _) hb1; clear hb1 hat)
    | (go_at_call 36; refine (position36 N h v _ h0 (by omega) hh hv).mono ?_; rw [HK.out]; rintro e w2 ⟨rfl, q, rfl⟩))
  go_ret
  exact ⟨rfl, below_drewN hbw _⟩

/-- The view in which a block that records M was proposed. -/
def propGo (S Pa : List Int) (h : Nat) (M : List Int) : Nat → Nat → Nat
  | 0, v => v
  | k + 1, v => if hasB M (spk S Pa h v) then propGo S Pa h M k (v + 1) else v
def propIn (S Pa : List Int) (h : Nat) (M : List Int) : Nat := propGo S Pa h M (liveOf S Pa).length 0
theorem propGo_le (S Pa : List Int) (h : Nat) (M : List Int) : ∀ k v, propGo S Pa h M k v ≤ v + k
  | 0, v => Nat.le_refl _
  | k + 1, v => by
    unfold propGo
    split
    · have := propGo_le S Pa h M k (v + 1); omega
    · omega

set_option maxRecDepth 100000 in
set_option maxHeartbeats 4000000 in
theorem proposedIn22 (s p l m : Value) (S Pa M : List Int) (La : List Lap) (h : Nat) (w : World) (ht : Tn w s p l S Pa La) (hf : Fit S Pa La) (hm : Ints w m M) (hM : M.length ≤ 1024) (hh : h < 18446744073709551616) :
    Calls Ybaf.prog 22 #[.agg #[s, p, l], .int .u64 h, m] w fun e w' => e = .returned (.int .u32 (propIn S Pa h M)) ∧ Below w.heap.size w w' := by
  have HT : Hid (Tn w s p l S Pa La) := ht
  obtain ⟨sa, sc, rfl, _, _, _⟩ := ht.s
  obtain ⟨pa, pc, rfl, _, _, _⟩ := ht.p
  obtain ⟨la, lc, rfl, _, _, _⟩ := ht.l
  have HF : Hid (Fit S Pa La) := hf
  have HM : Hid (Ints w m M) := hm
  clear ht hf hm
  have hb0 : ∀ o, Below w.heap.size w (w.alloc o) := fun o => (Below.refl _ _).alloc (Nat.le_refl _) _
  have h0 := HF.out.v0
  have h1 := HF.out.v1
  obtain ⟨r0, hr0⟩ : ∃ r0, r0 = propIn S Pa h M := ⟨_, rfl⟩
  have HR0 : Hid (r0 = propGo S Pa h M (liveOf S Pa).length 0) := hr0
  rw [← hr0]
  clear hr0
  generalize hN : (liveOf S Pa).length = N at *
  have HN : Hid _ := hN
  clear hN
  have hbox : Hid (∀ W, Below (w.heap.size + 1) (w.alloc (.cells #[.slice sa S.length sc, .slice pa Pa.length pc, .slice la La.length lc] 83)) W → W.cell? ⟨w.heap.size, 0, none⟩ = some (.slice sa S.length sc) ∧ W.cell? ⟨w.heap.size, 1, none⟩ = some (.slice pa Pa.length pc) ∧ W.cell? ⟨w.heap.size, 2, none⟩ = some (.slice la La.length lc)) := fun W hW => ⟨cell_new rfl hW, cell_new rfl hW, cell_new rfl hW⟩
  go_enter Ybaf.func22, Ybaf.ntmps22
  go_wp2_with (go_at_call 32; refine (live32 _ _ _ S Pa la La.length lc _ (HT.out.s.later (hb0 _)) (HT.out.p.later (hb0 _)) rfl ⟨HF.out.s0, by have := HF.out.s1; omega⟩ (by have := HF.out.p1; omega)).mono ?_; rintro e w1 ⟨r, rfl, hr, hb1⟩; obtain ⟨ra, rc, rfl, _, _, hat⟩ := hr; rw [HN.out]; clear hat)
  go_loopw [7] (fun q wr => ∃ v : Nat, v ≤ N ∧ q = .int .u32 v ∧ Below (w.heap.size + 1) (w.alloc (.cells #[.slice sa S.length sc, .slice pa Pa.length pc, .slice la La.length lc] 83)) wr ∧ Hid (r0 = propGo S Pa h M (N - v) v)) (fun q _ => N - (intOf q).toNat)
  case atStart => exact ⟨0, Nat.zero_le _, rfl, by simpa using hb1, HR0⟩
  case round =>
    obtain ⟨v, hv, rfl, hb, HR⟩ := hrel
    obtain ⟨c0, c1, c2⟩ := hbox.out wr hb
    have hbw : Below w.heap.size w wr := (hb0 _).trans (hb.mono (Nat.le_succ _))
    by_cases hvn : v < N
    · cases hq : hasB M (spk S Pa h v) with
      | true =>
        have HQ : Hid _ := hq
        clear hq
        go_wp2_with (first
          | (go_at_call 33; refine (speaker33 _ _ _ S Pa La h v _ (HT.out.later hbw) HF.out hh (by omega)).mono ?_; rintro e w2 ⟨rfl, hb2⟩; have hbw2 := below_trans hbw hb2; have hb3 := hb.trans (hb2.mono (by have := hb.size; simpa using this)))
          | (go_at_call 30; refine (has30 _ M _ _ (HM.out.later hbw2) (by omega)).mono ?_; rw [HQ.out]; rintro e w3 ⟨rfl, rfl⟩))
        go_roundw
        case rel =>
          refine ⟨v + 1, by omega, by go_num, hb3, ?_⟩
          have h2 := HR.out
          rw [show N - v = (N - (v + 1)) + 1 by omega, propGo, if_pos HQ.out] at h2
          exact h2
        case measure => simp [intOf]; omega
      | false =>
        have HQ : Hid _ := hq
        clear hq
        go_wp2_with (first
          | (go_at_call 33; refine (speaker33 _ _ _ S Pa La h v _ (HT.out.later hbw) HF.out hh (by omega)).mono ?_; rintro e w2 ⟨rfl, hb2⟩; have hbw2 := below_trans hbw hb2)
          | (go_at_call 30; refine (has30 _ M _ _ (HM.out.later hbw2) (by omega)).mono ?_; rw [HQ.out]; rintro e w3 ⟨rfl, rfl⟩))
        go_ret
        refine ⟨?_, hbw2⟩
        have h2 := HR.out
        rw [show N - v = (N - (v + 1)) + 1 by omega, propGo, if_neg (by rw [HQ.out]; decide)] at h2
        rw [h2]
        rfl
    · obtain rfl : v = N := by omega
      go_wp2
      go_ret
      refine ⟨?_, hbw⟩
      have h2 := HR.out
      rw [Nat.sub_self, propGo] at h2
      rw [h2]
      rfl
end Go.Proofs.YbulkcvteFmt

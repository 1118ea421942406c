/- Turns.letsBack; Engine.turns; schedule.after; the closure of Turns.following. -/
import Derived.Test.YbulkcvteFmtLapse
namespace Go.Proofs.YbulkcvteFmt
open Go.RowKit
set_option linter.unusedVariables false

theorem field31 (a b c : Int) (W : World) : (Instr.field 31 (.agg #[.int .i64 a, .int .u16 b, .int .u64 c]) 2).run Ybaf.prog W = .ok (.int .u64 c) W := by
  have u31 := Ybaf.underlying31
  have a24 := Ybaf.isAgg24
  simp [Instr.field, asAgg, part, run_underlying u31, a24]

set_option maxRecDepth 100000 in
set_option maxHeartbeats 4000000 in
theorem letsBack24 (s p l : Value) (S Pa : List Int) (La : List Lap) (m : Int) (h : Nat) (w : World) (ht : Tn w s p l S Pa La) (hPa : Pa.length ≤ 1024) (hL : La.length ≤ 1024) (hsm : Small La) (hm : -1048576 ≤ m ∧ m ≤ 1048576) :
    Calls Ybaf.prog 24 #[.agg #[s, p, l], .int .i64 m, .int .u64 h] w fun e w' => e = .returned (.bool (hasB Pa m && decide ((lapseOf La m).b ≤ (h : Int)))) ∧ Below w.heap.size w w' := by
  have HT : Hid (Tn w s p l S Pa La) := ht
  obtain ⟨sa, sc, rfl, _, _, _⟩ := ht.s
  obtain ⟨pa, pc, rfl, _, _, _⟩ := ht.p
  obtain ⟨la, lc, rfl, _, _, _⟩ := ht.l
  have HS : Hid (Small La) := hsm
  have HM : Hid (-1048576 ≤ m ∧ m ≤ 1048576) := hm
  clear ht hsm hm
  have hb0 : ∀ o, Below w.heap.size w (w.alloc o) := fun o => (Below.refl _ _).alloc (Nat.le_refl _) _
  cases hq : hasB Pa m with
  | false =>
    have HQ : Hid _ := hq
    clear hq
    go_enter Ybaf.func24, Ybaf.ntmps24
    go_wp2_with (first
      | (go_at_call 30; refine (has30 _ Pa _ _ (HT.out.p.later (hb0 _)) (by omega)).mono ?_; rw [HQ.out]; rintro e w3 ⟨rfl, rfl⟩))
    go_ret
    exact ⟨rfl, hb0 _⟩
  | true =>
    have HQ : Hid _ := hq
    have hfd := fun W => field31 (lapseOf La m).v (lapseOf La m).m (lapseOf La m).b W
    clear hq
    go_enter Ybaf.func24, Ybaf.ntmps24
    go_wp2_with (first
      | (go_at_call 30; refine (has30 _ Pa _ _ (HT.out.p.later (hb0 _)) (by omega)).mono ?_; rw [HQ.out]; rintro e w3 ⟨rfl, rfl⟩)
      | (go_at_call 34; refine (lapse34 _ _ _ S Pa La m _ (HT.out.later (hb0 _)) (by omega) HS.out HM.out).mono ?_; rintro e w4 ⟨rfl, hb4⟩; have hbw := below_trans (hb0 _) hb4))
    go_ret
    exact ⟨by simp, hbw⟩

set_option maxRecDepth 100000 in
set_option maxHeartbeats 4000000 in
theorem turns20 (E : Nat) (sa pa la : Option Addr) (sn pn ln sc pc lc : Nat) (w : World) (hE : E < w.heap.size) (hs : w.cell? ⟨E, 81, none⟩ = some (.slice sa sn sc)) (hp : w.cell? ⟨E, 86, none⟩ = some (.slice pa pn pc)) (hl : w.cell? ⟨E, 87, none⟩ = some (.slice la ln lc)) :
    Calls Ybaf.prog 20 #[.pointer (some ⟨E, 0, none⟩)] w fun e w' => e = .returned (.agg #[.slice sa sn sc, .slice pa pn pc, .slice la ln lc]) ∧ Below w.heap.size w w' := by
  have k1 : ∀ o, (w.alloc o).cell? ⟨E, 81, none⟩ = some (.slice sa sn sc) := fun o => by rw [((Below.refl w.heap.size w).alloc (Nat.le_refl _) o).cell hE]; exact hs
  have k2 : ∀ o, (w.alloc o).cell? ⟨E, 86, none⟩ = some (.slice pa pn pc) := fun o => by rw [((Below.refl w.heap.size w).alloc (Nat.le_refl _) o).cell hE]; exact hp
  have k3 : ∀ o, (w.alloc o).cell? ⟨E, 87, none⟩ = some (.slice la ln lc) := fun o => by rw [((Below.refl w.heap.size w).alloc (Nat.le_refl _) o).cell hE]; exact hl
  clear hs hp hl
  go_enter Ybaf.func20, Ybaf.ntmps20
  go_wp2
  go_region
  all_goals go_wp2
  all_goals (refine bodyPost_ret (results_cell_row rfl _ _ w.heap.size 83 #[.slice sa sn sc, .slice pa pn pc, .slice la ln lc] (0, 0) _ rfl (Blk.new w 83 #[.slice sa sn sc, .slice pa pn pc, .slice la ln lc]) Ybaf.underlying83 rfl size83) rfl ?_)
  all_goals exact ⟨rfl, ((Below.refl _ _).alloc (Nat.le_refl _) _).drew⟩

set_option maxRecDepth 100000 in
set_option maxHeartbeats 4000000 in
/-- schedule.after: no set is recorded. -/
theorem after19 (E : Nat) (sa : Option Addr) (sn sc : Nat) (cs : Array Value) (w : World) (hE : E < w.heap.size) (hs : w.cell? ⟨E, 81, none⟩ = some (.slice sa sn sc)) (hn : cs.size = 41) (h33 : cs[33]? = some (.slice none 0 0)) :
    Calls Ybaf.prog 19 #[.pointer (some ⟨E, 81, none⟩), .agg cs] w fun e w' => e = .returned (.slice sa sn sc) ∧ Below w.heap.size w w' := by
  have k1 : ∀ o, (w.alloc o).cell? ⟨E, 81, none⟩ = some (.slice sa sn sc) := fun o => by rw [((Below.refl w.heap.size w).alloc (Nat.le_refl _) o).cell hE]; exact hs
  have k2 : (w.alloc (.cells cs 39)).cell? ⟨w.heap.size, 33, none⟩ = some (.slice none 0 0) := (Blk.new w 39 cs).cell 33 (by simpa using h33)
  clear hs
  go_enter Ybaf.func19, Ybaf.ntmps19
  go_wp2
  go_ret
  exact ⟨rfl, (Below.refl _ _).alloc (Nat.le_refl _) _⟩

/-- One member more, if next holds it and bears one more. -/
def addF (Nx L : List Int) (m : Int) : List Int := if decide (L.length < (Nx.length - 1) / 3) && hasB Nx m then L ++ [m] else L
theorem addF_len (Nx L : List Int) (m : Int) : (addF Nx L m).length ≤ L.length + 1 := by
  unfold addF
  split <;> simp

set_option maxRecDepth 100000 in
set_option maxHeartbeats 4000000 in
theorem add28 (m : Int) (X Y : Nat) (v nx : Value) (L Nx : List Int) (w : World) (hX : Blk w X 27 [v]) (hown : OwnI w (X + 1) v L) (hY : w.cell? ⟨Y, 0, none⟩ = some nx) (hYX : Y < X) (hnx : Ints w nx Nx) (hN : 0 < Nx.length ∧ Nx.length ≤ 1024) (hL : L.length ≤ 1024) :
    Calls Ybaf.prog 28 #[.int .i64 m, .pointer (some ⟨X, 0, none⟩), .pointer (some ⟨Y, 0, none⟩)] w fun e w' => e = .returned (.tuple #[]) ∧ ∃ v', Blk w' X 27 [v'] ∧ OwnI w' (X + 1) v' (addF Nx L m) ∧ Below X w w' := by
  obtain ⟨hN0, hN1⟩ := hN
  have HX : Hid (Blk w X 27 [v]) := hX
  have HO : Hid (OwnI w (X + 1) v L) := hown
  have HI : Hid (Ints w nx Nx) := hnx
  have hx0 := hX.cell 0 rfl
  have hxf := hX.free 0
  have hxl := hX.lt
  obtain ⟨va, vc, rfl⟩ := hown.shape
  obtain ⟨na, nc, rfl, _, _, _⟩ := hnx
  clear hX hown
  obtain ⟨F, hF⟩ : ∃ F, F = (Nx.length - 1) / 3 := ⟨_, rfl⟩
  have HMF : Hid (∀ W, Calls Ybaf.prog 29 #[.int .i64 Nx.length] W fun e w' => e = .returned (.int .i64 F) ∧ w' = W) := fun W => by rw [hF]; exact maxFaulty29 Nx.length W hN0 (by omega)
  by_cases hlt : L.length < F
  · have hltd : decide ((L.length : Int) < (F : Int)) = true := by simp; omega
    cases hq : hasB Nx m with
    | true =>
      have HHAS : Hid (∀ n, Calls Ybaf.prog 30 #[.slice na Nx.length nc, .int .i64 m] (w.drewN n) fun e w' => e = .returned (.bool true) ∧ w' = w.drewN n) := fun n => by rw [← hq]; exact has30 (.slice na Nx.length nc) Nx m (w.drewN n) HI.out (by omega)
      have HR : Hid (addF Nx L m = L ++ [m]) := by unfold addF; rw [← hF]; simp [hlt, hq, Hid]
      clear hq hF
      go_enter Ybaf.func28, Ybaf.ntmps28
      go_wp2_with fail
      go_quiet (first | (go_at_call 29; refine Calls.quiet_of_same (HMF.out _)) | (go_at_call 30; refine Calls.quiet_of_same (HHAS.out _)))
      have HX9 : Hid (Blk (w.drewN nq) X 27 [.slice va L.length vc]) := HX.out
      have HO9 : Hid (OwnI (w.drewN nq) (X + 1) (.slice va L.length vc) L) := HO.out.later (below_drewN (Below.refl _ _) _)
      have hb9 : Below X w (w.drewN nq) := below_drewN (Below.refl _ _) _
      have x9 := HX9.out.cell 0 rfl
      have f9 := HX9.out.free 0
      have l9 := HX9.out.lt
      generalize w.drewN nq = w9 at *
      clear HHAS HMF
      go_wp2_with (at_builtin; refine app27 (w0 := w9) rfl _ _ rfl (X + 1) (.slice va L.length vc) L rfl HO9.out m rfl (by omega) l9 ?_; intro x' w6 hown6 hb6; have hB6 := HX9.out.below hb6 (Nat.lt_succ_self _); have y0 := hB6.cell 0 rfl; have yf := hB6.free 0; have HO6 := Hid.mk hown6; obtain ⟨xa, xc, rfl⟩ := hown6.shape; clear hown6)
      go_end0
      refine ⟨rfl, _, hB6.set 0 _, ?_, ?_⟩
      · rw [HR.out]
        have h7 := ownsRow_setCell_below (a := ⟨X, 0, none⟩) HO6.out (Nat.lt_succ_self X) (.slice xa (L.length + 1) xc)
        unfold OwnI
        simpa using h7
      · exact (hb9.trans (hb6.mono (Nat.le_succ _))).setCell (p := ⟨X, 0, none⟩) (Nat.le_refl X) _
    | false =>
      have HHAS : Hid (∀ n, Calls Ybaf.prog 30 #[.slice na Nx.length nc, .int .i64 m] (w.drewN n) fun e w' => e = .returned (.bool false) ∧ w' = w.drewN n) := fun n => by rw [← hq]; exact has30 (.slice na Nx.length nc) Nx m (w.drewN n) HI.out (by omega)
      have HR : Hid (addF Nx L m = L) := by unfold addF; rw [← hF]; simp [hq, Hid]
      clear hq hF
      go_enter Ybaf.func28, Ybaf.ntmps28
      go_wp2_with fail
      go_quiet (first | (go_at_call 29; refine Calls.quiet_of_same (HMF.out _)) | (go_at_call 30; refine Calls.quiet_of_same (HHAS.out _)))
      go_wp2
      go_end0
      refine ⟨rfl, _, HX.out.drewN _, ?_, below_drewN (Below.refl _ _) _⟩
      rw [HR.out]
      exact HO.out.later (below_drewN (Below.refl _ _) _)
  · have hltd : decide ((L.length : Int) < (F : Int)) = false := by simp; omega
    have HR : Hid (addF Nx L m = L) := by unfold addF; rw [← hF]; simp [hlt, Hid]
    have HHAS : Hid True := trivial
    clear hF
    go_enter Ybaf.func28, Ybaf.ntmps28
    go_wp2_with fail
    go_quiet (first | (go_at_call 29; refine Calls.quiet_of_same (HMF.out _)))
    go_wp2
    go_end0
    refine ⟨rfl, _, HX.out.drewN _, ?_, below_drewN (Below.refl _ _) _⟩
    rw [HR.out]
    exact HO.out.later (below_drewN (Below.refl _ _) _)
end Go.Proofs.YbulkcvteFmt

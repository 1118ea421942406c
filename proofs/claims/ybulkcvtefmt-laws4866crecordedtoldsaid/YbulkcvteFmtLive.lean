/- Turns.live, Turns.Speaker. -/
import Derived.Test.YbulkcvteFmtDel
namespace Go.Proofs.YbulkcvteFmt
open Go.RowKit
set_option linter.unusedVariables false

/-- The members that are not passed over. -/
def liveOf (S Pa : List Int) : List Int := S.filter fun x => !hasB Pa x
theorem hasB_nil (x : Int) : hasB [] x = false := by simp [hasB]
theorem liveOf_nil (S : List Int) : liveOf S [] = S := by
  unfold liveOf
  simp [hasB_nil]

theorem own_parts {w : World} {B : Nat} {v : Value} {L : List Int} (h : OwnI w B v L) (h0 : 0 < L.length) : ∃ g cap cs, v = .slice (some ⟨g, 0, none⟩) L.length cap ∧ B ≤ g ∧ Blk w g 3 cs ∧ cs.length = cap ∧ L.length ≤ cap ∧ cap ≤ maxLen ∧ ∀ k, k < L.length → cs[k]? = some (.int .i64 (L.getD k 0)) := by
  obtain ⟨hl, ⟨rfl, hn⟩ | ⟨g, cap, cur, rfl, hg, hh, hc, hm, hsz, ht⟩⟩ := h
  · omega
  · refine ⟨g, cap, cur.toList, rfl, hg, by unfold Blk; simpa using hh, by simpa using hsz, hc, hm, fun k hk => ?_⟩
    have := take_get ht (i := k) (v := .int .i64 (L.getD k 0)) (by simp [List.getD, hk])
    simpa using this

set_option maxRecDepth 100000 in
set_option maxHeartbeats 4000000 in
theorem live32 (s p l : Value) (S Pa : List Int) (la : Option Addr) (ln lc : Nat) (w : World) (hs : Ints w s S) (hp : Ints w p Pa) (hl : l = .slice la ln lc) (hS : 0 < S.length ∧ S.length ≤ 1024) (hPa : Pa.length ≤ 1024) :
    Calls Ybaf.prog 32 #[.agg #[s, p, l]] w fun e w' => ∃ r, e = .returned r ∧ Ints w' r (liveOf S Pa) ∧ Below w.heap.size w w' := by
  obtain ⟨hS0, hS1⟩ := hS
  have HS : Hid (Ints w s S) := hs
  have HP : Hid (Ints w p Pa) := hp
  obtain ⟨sa, sc, rfl, _, _, _⟩ := hs
  obtain ⟨pa, pc, rfl, _, _, _⟩ := hp
  subst hl
  have hb0 : ∀ o, Below w.heap.size w (w.alloc o) := fun o => (Below.refl _ _).alloc (Nat.le_refl _) _
  have hbd : ∀ o, Below w.heap.size w ((w.alloc o).drew) := fun o => (hb0 o).drew
  by_cases h0 : Pa.length = 0
  · have hnil : Pa = [] := List.eq_nil_of_length_eq_zero h0
    have h0' : ((Pa.length : Int) == 0) = true := by simp [h0]
    go_enter Ybaf.func32, Ybaf.ntmps32
    go_wp2
    go_ret
    exact ⟨_, rfl, by subst hnil; rw [liveOf_nil]; exact HS.out.later (hb0 _), hb0 _⟩
  · have h0' : ((Pa.length : Int) == 0) = false := by simpa using h0
    go_enter Ybaf.func32, Ybaf.ntmps32
    go_wp2_with fail
    go_region_with (first | (go_at_call 42; refine (clone42 _ S _ (HS.out.later (hbd _)) (by omega) hS0).mono ?_; rintro e w1 ⟨r, rfl, hown, hb1⟩; have hbx : Blk w1 w.heap.size 83 [.slice sa S.length sc, .slice pa Pa.length pc, .slice la ln lc] := (show Blk ((w.alloc (.cells #[.slice sa S.length sc, .slice pa Pa.length pc, .slice la ln lc] 83)).drew) w.heap.size 83 [.slice sa S.length sc, .slice pa Pa.length pc, .slice la ln lc] from Blk.new w 83 #[.slice sa S.length sc, .slice pa Pa.length pc, .slice la ln lc]).later hb1; have hx1 := hbx.cell 1 rfl; have hx0 := hbx.cell 0 rfl; obtain ⟨g, cap, cs, rfl, hg, hblk, hcs, hnc, hcm, hcell⟩ := own_parts hown hS0; have HB := Hid.mk hblk; have HC := Hid.mk hcell; have hbw := below_trans (hbd _) hb1; have hg2 : w.heap.size ≤ g := Nat.le_trans (Nat.le_of_lt (by simp)) hg; have HPW : Hid (∀ W, Below g w1 W → Ints W (.slice pa Pa.length pc) Pa) := (fun W hW => HP.out.later (hbw.trans (hW.mono hg2))); clear hown hblk hcell hbx hb1) | (go_at_call 41; refine (deleteFunc41 _ S Pa g S.length cap cs _ HB.out hcs hnc hcm rfl HC.out HPW.out (by omega) (by omega)).mono ?_; rintro e w2 ⟨r, rfl, hres, hb2⟩))
    all_goals (go_wp2; go_ret; exact ⟨_, rfl, hres, hbw.trans (hb2.mono hg2)⟩)
end Go.Proofs.YbulkcvteFmt

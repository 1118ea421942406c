/- The law's own 'missed'. -/
import Derived.Test.YbulkcvteFmtOwn
namespace Go.Proofs.YbulkcvteFmt
open Go.RowKit
set_option linter.unusedVariables false

/-- Is i marked, once the views below v have been looked at? -/
def zmark (set passed live : List Int) (h v : Nat) (i : Nat) : Bool :=
  (decide (set.getD (h % set.length) 0 ∈ passed) && (set.getD (h % set.length) 0 == (i : Int))) || (List.range v).any (fun u => live.getD (spos live.length h u) 0 == (i : Int))
def zmissedTo (set passed live : List Int) (h v n : Nat) : List Int := ((List.range n).filter (zmark set passed live h v)).map Int.ofNat
def zmissed (set passed live : List Int) (h v : Nat) : List Int := zmissedTo set passed live h v 16

def bools (f : Nat → Bool) : List Value := (List.range 16).map (fun i => Value.bool (f i))
theorem bools_set (f : Nat → Bool) (j : Nat) (hj : j < 16) : (bools f).set j (.bool true) = bools (fun i => f i || decide (j = i)) := by
  apply List.ext_getElem
  · simp [bools]
  · intro i h1 h2
    simp [bools] at h1 h2
    rw [List.getElem_set]
    by_cases e : j = i
    · simp [bools, e]
    · simp [bools, e]
theorem bools_get (f : Nat → Bool) (j : Nat) (hj : j < 16) : (bools f)[j]? = some (.bool (f j)) := by simp [bools, hj]
theorem zmissedTo_len (set passed live : List Int) (h v n : Nat) : (zmissedTo set passed live h v n).length ≤ n := by
  unfold zmissedTo
  rw [List.length_map]
  exact Nat.le_trans (List.length_filter_le _ _) (by simp)
theorem getD_mem {L : List Int} {k : Nat} (hk : k < L.length) : L.getD k 0 ∈ L := by simp [List.getD, hk]

set_option maxRecDepth 100000 in
set_option maxHeartbeats 1000000 in
theorem missed5 (s p l : Value) (S Pa Li : List Int) (h v : Nat) (w : World) (hs : Ints w s S) (hp : Ints w p Pa) (hl : Ints w l Li) (hS : 0 < S.length ∧ S.length ≤ 16) (hPa : Pa.length ≤ 16) (hLi : 0 < Li.length ∧ Li.length ≤ 16)
    (bS : ∀ x ∈ S, 0 ≤ x ∧ x < 16) (bL : ∀ x ∈ Li, 0 ≤ x ∧ x < 16) (hh : h < 18446744073709551616) (hv : v ≤ 16) :
    Calls Ybaf.prog 5 #[s, p, l, .int .u64 h, .int .i64 v] w fun e w' => ∃ r, e = .returned r ∧ OwnI w' w.heap.size r (zmissed S Pa Li h v) ∧ Below w.heap.size w w' := by
  obtain ⟨hS0, hS1⟩ := hS
  obtain ⟨hL0, hL1⟩ := hLi
  have HL : Hid (Ints w l Li) := hl
  have HP : Hid (Ints w p Pa) := hp
  clear hl hp
  have hmod := Nat.mod_lt h hS0
  obtain ⟨a, c, rfl, _, _, hat⟩ := hs
  obtain ⟨b, o, rfl, hblt, hcell⟩ := hat _ hmod
  unfold cellI at hcell
  obtain ⟨bp1, bp2⟩ := bS _ (getD_mem hmod)
  obtain ⟨pm, hpm⟩ : ∃ pm : Nat, S.getD (h % S.length) 0 = (pm : Int) := ⟨(S.getD (h % S.length) 0).toNat, by omega⟩
  rw [hpm] at hcell bp1 bp2
  have HPM : Hid (S.getD (h % S.length) 0 = (pm : Int)) := hpm
  have BL : Hid (∀ x ∈ Li, 0 ≤ x ∧ x < 16) := bL
  clear hat bS bL hpm
  have e1 : ((h : Int) % (S.length : Nat)) = ((h % S.length : Nat) : Int) := by simp
  have e3 : Int.tmod (h : Int) (S.length : Nat) = ((h % S.length : Nat) : Int) := by rw [Int.tmod_eq_emod_of_nonneg (by omega)]; simp
  have hn0 : S.length ≠ 0 := by omega
  generalize hA : h % S.length = A at *
  generalize hN : S.length = N at *
  have HA : Hid (h % N = A) := hA
  have HN : Hid (S.length = N) := hN
  clear hA hN
  have hb0 : ∀ o, Below w.heap.size w (w.alloc o) := fun o => (Below.refl _ _).alloc (Nat.le_refl _) _
  have key : ∀ (f : Nat → Bool) (u : Nat), (bools (fun i => zmark S Pa Li h u i)).set (Li.getD (spos Li.length h u) 0).toNat (.bool true) = bools (fun i => zmark S Pa Li h (u + 1) i) := by
    intro f u
    have hm := BL.out _ (getD_mem (spos_lt (h := h) (v := u) hL0))
    rw [bools_set _ _ (by omega)]
    simp only [zmark, List.range_succ, List.any_append, List.any_cons, List.any_nil, Bool.or_false]
    generalize Li.getD (spos Li.length h u) 0 = y at *
    congr 1
    funext i
    rw [Bool.or_assoc]
    congr 2
    rw [Bool.eq_iff_iff]
    simp
    omega
  have HK : Hid _ := key
  clear key
  by_cases hin : (pm : Int) ∈ Pa
  · have h00 : (bools (fun _ => false)).set pm (.bool true) = bools (fun i => zmark S Pa Li h 0 i) := by
      rw [bools_set _ _ (by omega)]
      congr 1
      funext i
      have h1 := HPM.out
      have h2 := HA.out
      have h3 := HN.out
      simp only [zmark, h3, h2, h1, hin]
      rw [Bool.eq_iff_iff]
      simp
      omega
    have H00 : Hid _ := h00
    clear h00
    go_enter Ybaf.func5, Ybaf.ntmps5
    go_wp2_with (go_at_call 17; refine (contains17 _ _ _ _ (HP.out.later (hb0 _)) (by omega)).mono ?_; rintro e w' ⟨rfl, hw'⟩; have hB : Hid (Blk w' w.heap.size 93 (bools fun _ => false)) := (by rw [hw']; exact Blk.new w 93 #[.bool false, .bool false, .bool false, .bool false, .bool false, .bool false, .bool false, .bool false, .bool false, .bool false, .bool false, .bool false, .bool false, .bool false, .bool false, .bool false]); have hbw : Below w.heap.size w w' := (by rw [hw']; exact hb0 _); clear hw'; have hcM := hB.out.cell pm (bools_get _ pm (by omega)); have hfM := hB.out.free pm; simp only [hin, decide_true])
    go_loopw [13] (fun u wr => ∃ k : Nat, k ≤ v ∧ u = .int .i64 k ∧ Below w.heap.size w wr ∧ Hid (Blk wr w.heap.size 93 (bools fun i => zmark S Pa Li h k i))) (fun u _ => v - (intOf u).toNat)
    case atStart => exact ⟨0, Nat.zero_le _, rfl, hbw.setCell (Nat.le_refl _) _, (by have h1 := hB.out.set pm (.bool true); rw [H00.out] at h1; simpa [Hid] using h1)⟩
    case round =>
      obtain ⟨k, hk, rfl, hb, HB⟩ := hrel
      by_cases hkv : k < v
      · obtain ⟨y1, y2⟩ := BL.out _ (getD_mem (spos_lt (h := h) (v := k) hL0))
        have hkey := HK.out (fun _ => false) k
        obtain ⟨yn, hy⟩ : ∃ yn : Nat, Li.getD (spos Li.length h k) 0 = (yn : Int) := ⟨(Li.getD (spos Li.length h k) 0).toNat, by omega⟩
        rw [hy] at y1 y2 hkey
        have HKEY : Hid _ := hkey
        have HY : Hid _ := hy
        have hcY := HB.out.cell yn (bools_get _ yn (by omega))
        have hfY := HB.out.free yn
        clear hy hkey
        go_wp2_with (go_at_call 12; refine (speaker12 _ Li h k _ (HL.out.later hb) (by omega) hL0 hh (by omega)).mono ?_; rw [HY.out]; rintro e w2 ⟨rfl, rfl⟩)
        go_roundw
        case rel =>
          refine ⟨k + 1, by omega, by go_num, hb.setCell (Nat.le_refl _) _, ?_⟩
          have := HB.out.set yn (.bool true)
          rw [show (yn : Nat) = ((yn : Int)).toNat by omega] at this
          rw [HKEY.out] at this
          simpa [Hid] using this
        case measure => simp [intOf]; omega
      · obtain rfl : k = v := by omega
        clear hkv hk
        go_wp2_with fail
        go_loopw [14, 15] (fun x i wr2 => ∃ j : Nat, j ≤ 16 ∧ i = .int .i64 j ∧ Below w.heap.size w wr2 ∧ Hid (Blk wr2 w.heap.size 93 (bools fun i => zmark S Pa Li h k i)) ∧ OwnI wr2 (w.heap.size + 1) x (zmissedTo S Pa Li h k j)) (fun _ i _ => 16 - (intOf i).toNat)
        case atStart => exact ⟨0, Nat.zero_le _, rfl, hb, HB, OwnI.nil _ _⟩
        case round =>
          obtain ⟨j, hj, rfl, hb2, HB2, hown⟩ := hrel
          have hM := HB2.out.lt
          by_cases hj16 : j < 16
          · have hcJ := HB2.out.cell j (bools_get _ j hj16)
            have hlen : (zmissedTo S Pa Li h k j).length ≤ 16 := Nat.le_trans (zmissedTo_len _ _ _ _ _ _) hj
            have hsz2 := hb2.size
            cases hz : zmark S Pa Li h k j with
            | false =>
              have hstep : zmissedTo S Pa Li h k (j + 1) = zmissedTo S Pa Li h k j := by simp [zmissedTo, List.range_succ, hz]
              have HST : Hid _ := hstep
              rw [hz] at hcJ
              clear hz hstep
              go_wp2
              go_roundw
              case rel => exact ⟨j + 1, by omega, by go_num, hb2, HB2, by rw [HST.out]; exact hown⟩
              case measure => simp [intOf]; omega
            | true =>
              have hstep : zmissedTo S Pa Li h k (j + 1) = zmissedTo S Pa Li h k j ++ [(j : Int)] := by simp [zmissedTo, List.range_succ, hz]
              have HST : Hid _ := hstep
              rw [hz] at hcJ
              clear hz hstep
              go_wp2_with (at_builtin; refine app27 rfl _ _ rfl (w.heap.size + 1) _ _ rfl hown (j : Int) rfl (by omega) (by omega) ?_)
              intro x' w3 hown3 hb3
              rw [← HST.out] at hown3
              have hbw3 := hb2.trans (hb3.mono (Nat.le_succ _))
              have hBw3 : Hid (Blk w3 w.heap.size 93 (bools fun i => zmark S Pa Li h k i)) := HB2.out.below hb3 (Nat.lt_succ_self _)
              go_wp2
              go_roundw
              case rel => exact ⟨j + 1, by omega, by go_num, hbw3, hBw3, hown3⟩
              case measure => simp [intOf]; omega
          · obtain rfl : j = 16 := by omega
            go_wp2
            go_ret
            refine ⟨_, rfl, ?_, hb2⟩
            obtain ⟨h1, h2 | ⟨g, cap, cur, he, hg, hr⟩⟩ := hown
            · exact ⟨h1, .inl h2⟩
            · exact ⟨h1, .inr ⟨g, cap, cur, he, by omega, hr⟩⟩
  · have h00 : bools (fun _ => false) = bools (fun i => zmark S Pa Li h 0 i) := by
      congr 1
      funext i
      have h1 := HPM.out
      have h2 := HA.out
      have h3 := HN.out
      simp only [zmark, h3, h2, h1, hin]
      simp
    have H00 : Hid _ := h00
    clear h00
    go_enter Ybaf.func5, Ybaf.ntmps5
    go_wp2_with (go_at_call 17; refine (contains17 _ _ _ _ (HP.out.later (hb0 _)) (by omega)).mono ?_; rintro e w' ⟨rfl, hw'⟩; have hB : Hid (Blk w' w.heap.size 93 (bools fun _ => false)) := (by rw [hw']; exact Blk.new w 93 #[.bool false, .bool false, .bool false, .bool false, .bool false, .bool false, .bool false, .bool false, .bool false, .bool false, .bool false, .bool false, .bool false, .bool false, .bool false, .bool false]); have hbw : Below w.heap.size w w' := (by rw [hw']; exact hb0 _); clear hw'; simp only [hin, decide_false])
    go_loopw [13] (fun u wr => ∃ k : Nat, k ≤ v ∧ u = .int .i64 k ∧ Below w.heap.size w wr ∧ Hid (Blk wr w.heap.size 93 (bools fun i => zmark S Pa Li h k i))) (fun u _ => v - (intOf u).toNat)
    case atStart => exact ⟨0, Nat.zero_le _, rfl, hbw, (by have h1 := hB.out; rw [H00.out] at h1; exact h1)⟩
    case round =>
      obtain ⟨k, hk, rfl, hb, HB⟩ := hrel
      by_cases hkv : k < v
      · obtain ⟨y1, y2⟩ := BL.out _ (getD_mem (spos_lt (h := h) (v := k) hL0))
        have hkey := HK.out (fun _ => false) k
        obtain ⟨yn, hy⟩ : ∃ yn : Nat, Li.getD (spos Li.length h k) 0 = (yn : Int) := ⟨(Li.getD (spos Li.length h k) 0).toNat, by omega⟩
        rw [hy] at y1 y2 hkey
        have HKEY : Hid _ := hkey
        have HY : Hid _ := hy
        have hcY := HB.out.cell yn (bools_get _ yn (by omega))
        have hfY := HB.out.free yn
        clear hy hkey
        go_wp2_with (go_at_call 12; refine (speaker12 _ Li h k _ (HL.out.later hb) (by omega) hL0 hh (by omega)).mono ?_; rw [HY.out]; rintro e w2 ⟨rfl, rfl⟩)
        go_roundw
        case rel =>
          refine ⟨k + 1, by omega, by go_num, hb.setCell (Nat.le_refl _) _, ?_⟩
          have := HB.out.set yn (.bool true)
          rw [show (yn : Nat) = ((yn : Int)).toNat by omega] at this
          rw [HKEY.out] at this
          simpa [Hid] using this
        case measure => simp [intOf]; omega
      · obtain rfl : k = v := by omega
        clear hkv hk
        go_wp2_with fail
        go_loopw [14, 15] (fun x i wr2 => ∃ j : Nat, j ≤ 16 ∧ i = .int .i64 j ∧ Below w.heap.size w wr2 ∧ Hid (Blk wr2 w.heap.size 93 (bools fun i => zmark S Pa Li h k i)) ∧ OwnI wr2 (w.heap.size + 1) x (zmissedTo S Pa Li h k j)) (fun _ i _ => 16 - (intOf i).toNat)
        case atStart => exact ⟨0, Nat.zero_le _, rfl, hb, HB, OwnI.nil _ _⟩
        case round =>
          obtain ⟨j, hj, rfl, hb2, HB2, hown⟩ := hrel
          have hM := HB2.out.lt
          by_cases hj16 : j < 16
          · have hcJ := HB2.out.cell j (bools_get _ j hj16)
            have hlen : (zmissedTo S Pa Li h k j).length ≤ 16 := Nat.le_trans (zmissedTo_len _ _ _ _ _ _) hj
            have hsz2 := hb2.size
            cases hz : zmark S Pa Li h k j with
            | false =>
              have hstep : zmissedTo S Pa Li h k (j + 1) = zmissedTo S Pa Li h k j := by simp [zmissedTo, List.range_succ, hz]
              have HST : Hid _ := hstep
              rw [hz] at hcJ
              clear hz hstep
              go_wp2
              go_roundw
              case rel => exact ⟨j + 1, by omega, by go_num, hb2, HB2, by rw [HST.out]; exact hown⟩
              case measure => simp [intOf]; omega
            | true =>
              have hstep : zmissedTo S Pa Li h k (j + 1) = zmissedTo S Pa Li h k j ++ [(j : Int)] := by simp [zmissedTo, List.range_succ, hz]
              have HST : Hid _ := hstep
              rw [hz] at hcJ
              clear hz hstep
              go_wp2_with (at_builtin; refine app27 rfl _ _ rfl (w.heap.size + 1) _ _ rfl hown (j : Int) rfl (by omega) (by omega) ?_)
              intro x' w3 hown3 hb3
              rw [← HST.out] at hown3
              have hbw3 := hb2.trans (hb3.mono (Nat.le_succ _))
              have hBw3 : Hid (Blk w3 w.heap.size 93 (bools fun i => zmark S Pa Li h k i)) := HB2.out.below hb3 (Nat.lt_succ_self _)
              go_wp2
              go_roundw
              case rel => exact ⟨j + 1, by omega, by go_num, hbw3, hBw3, hown3⟩
              case measure => simp [intOf]; omega
          · obtain rfl : j = 16 := by omega
            go_wp2
            go_ret
            refine ⟨_, rfl, ?_, hb2⟩
            obtain ⟨h1, h2 | ⟨g, cap, cur, he, hg, hr⟩⟩ := hown
            · exact ⟨h1, .inl h2⟩
            · exact ⟨h1, .inr ⟨g, cap, cur, he, by omega, hr⟩⟩
end Go.Proofs.YbulkcvteFmt

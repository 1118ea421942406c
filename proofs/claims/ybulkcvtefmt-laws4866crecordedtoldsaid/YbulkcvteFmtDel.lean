/- slices.Clone, IndexFunc and DeleteFunc at Set; Turns.live. -/
import Derived.Test.YbulkcvteFmtZm
import Derived.Lib.SliceRun
namespace Go.Proofs.YbulkcvteFmt
open Go.RowKit
set_option linter.unusedVariables false

set_option maxRecDepth 100000 in
set_option maxHeartbeats 1000000 in
theorem clone42 (s : Value) (L : List Int) (w : World) (hs : Ints w s L) (hL : L.length ≤ 1048576) (h0 : 0 < L.length) :
    Calls Ybaf.prog 42 #[s] w fun e w' => ∃ r, e = .returned r ∧ OwnI w' w.heap.size r L ∧ Below w.heap.size w w' := by
  obtain ⟨a, c, rfl, _, _, hat⟩ := hs
  obtain ⟨b, o, rfl, hb, _⟩ := hat 0 h0
  have HA : Hid (At w (some ⟨b, o, none⟩) L.length (cellI L)) := hat
  clear hat
  obtain ⟨i, hi, hz0, hz1, hz2⟩ := info_parts info3
  have hnil : ∀ W : World, (binOp .eql 27 (.slice (some ⟨b, o, none⟩) L.length c) (.slice none 0 0)).run Ybaf.prog W = .ok (.bool false) W := fun W => Lib.run_eql_slice_nil W 27 3 _ _ _ _ _ Ybaf.underlying27
  have hb0 : Below w.heap.size w (w.alloc (.cells #[] 3)) := (Below.refl _ _).alloc (Nat.le_refl _) _
  go_enter Ybaf.func42, Ybaf.ntmps42
  go_wp2_with (at_builtin; refine wpList_append_own _ rfl _ _ 27 rfl w.heap.size 3 i (.int .i64 0) 1 8 Ybaf.underlying27 hi hz0 hz1 hz2 rfl (by decide) _ 0 [] rfl ?c0 ⟨b, o, none⟩ L.length c (L.map (Value.int .i64)) rfl (by simp) ?c1 ?c2 (by unfold maxLen; omega) (by omega) (by simp) ?_)
  case c0 => exact ⟨rfl, .inr ⟨w.heap.size, 0, #[], rfl, Nat.le_refl _, heap_alloc_new w (.cells #[] 3), Nat.le_refl _, Nat.zero_le _, rfl, rfl⟩⟩
  case c1 =>
    intro j u hj
    have hjl : j < L.length := by have := (List.getElem?_eq_some_iff.1 hj).1; simpa using this
    obtain ⟨b', o', e, _, hc⟩ := HA.out.later hb0 j hjl
    simp at e
    obtain ⟨rfl, rfl⟩ := e
    rw [Go.WideShapes.add_plain, hc, ← hj]
    simp [cellI, List.getD, hjl]
  case c2 => intro u hu; simp at hu; obtain ⟨x, _, rfl⟩ := hu; rfl
  intro v' w' hown hg _
  go_wp2
  go_ret
  refine ⟨_, rfl, ?_, hb0.grown hg (by simp) (fun k hk => by simp [Value.ownBlock] at hk; omega)⟩
  unfold OwnI
  simpa using hown

set_option maxRecDepth 100000 in
set_option maxHeartbeats 1000000 in
theorem indexFunc59 (s p : Value) (L Pa : List Int) (w : World) (hs : Ints w s L) (hp : Ints w p Pa) (hL : L.length ≤ 1048576) (hPa : Pa.length ≤ 1048576) :
    Calls Ybaf.prog 59 #[s, .func (.func 30) #[p] #[]] w fun e w' => ∃ r : Int, e = .returned (.int .i64 r) ∧ w' = w ∧ ((r = -1 ∧ ∀ j, j < L.length → hasB Pa (L.getD j 0) = false) ∨ ∃ k : Nat, k < L.length ∧ r = k ∧ hasB Pa (L.getD k 0) = true ∧ ∀ j, j < k → hasB Pa (L.getD j 0) = false) := by
  obtain ⟨a, c, rfl, _, _, hat⟩ := hs
  have HA : Hid (At w a L.length (cellI L)) := hat
  have HP : Hid (Ints w p Pa) := hp
  clear hat hp
  generalize hn : L.length = n at *
  clear hn
  go_enter Ybaf.func59, Ybaf.ntmps59
  go_wp2
  go_loop [5, 8] (fun _ i => ∃ k : Nat, k ≤ n ∧ i = .int .i64 k ∧ ∀ j, j < k → hasB Pa (L.getD j 0) = false) (fun _ i => n - (intOf i).toNat)
  case atStart => exact ⟨0, Nat.zero_le _, rfl, fun j hj => absurd hj (Nat.not_lt_zero _)⟩
  case round =>
    obtain ⟨k, hk, rfl, hne0⟩ := hrel
    have HNE : Hid (∀ j, j < k → hasB Pa (L.getD j 0) = false) := hne0
    clear hne0
    by_cases hkn : k < n
    · obtain ⟨b, o, rfl, _, hcell⟩ := HA.out k hkn
      unfold cellI at hcell
      generalize hy : L.getD k 0 = y at hcell
      have HY : Hid (L.getD k 0 = y) := hy
      clear hy
      cases hq : hasB Pa y with
      | true =>
        have HQ : Hid _ := hq
        clear hq
        go_wp2_with (go_at_call 30; refine (has30 _ Pa _ _ HP.out hPa).mono ?_; rw [HQ.out]; rintro e w2 ⟨rfl, rfl⟩)
        go_ret
        exact ⟨_, rfl, rfl, .inr ⟨k, hkn, rfl, by rw [HY.out]; exact HQ.out, HNE.out⟩⟩
      | false =>
        have HQ : Hid _ := hq
        clear hq
        go_wp2_with (go_at_call 30; refine (has30 _ Pa _ _ HP.out hPa).mono ?_; rw [HQ.out]; rintro e w2 ⟨rfl, rfl⟩)
        go_round
        case rel =>
          refine ⟨k + 1, by omega, by go_num, fun j hj => ?_⟩
          by_cases e : j = k
          · subst e; rw [HY.out]; exact HQ.out
          · exact HNE.out j (by omega)
        case measure => simp [intOf]; omega
    · obtain rfl : k = n := by omega
      go_wp2
      go_ret
      exact ⟨_, rfl, rfl, .inl ⟨rfl, HNE.out⟩⟩

/-- How far slices.DeleteFunc has come: j elements looked at, i kept. -/
structure Del (Pa L : List Int) (n cap i j : Nat) (cs : List Value) : Prop where
  len : cs.length = cap
  lt : i < j
  le : j ≤ n
  kept : i = ((L.take j).filter fun x => !hasB Pa x).length
  low : ∀ k, k < i → cs[k]? = some (.int .i64 (((L.take j).filter fun x => !hasB Pa x).getD k 0))
  high : ∀ k, j ≤ k → k < n → cs[k]? = some (.int .i64 (L.getD k 0))

theorem take_succ_filter {Pa L : List Int} {j : Nat} (hj : j < L.length) : (L.take (j + 1)).filter (fun x => !hasB Pa x) = (L.take j).filter (fun x => !hasB Pa x) ++ (if hasB Pa (L.getD j 0) then [] else [L.getD j 0]) := by
  rw [List.take_add_one, List.filter_append]
  congr 1
  simp [hj, List.getD, List.filter_cons]
  cases hasB Pa L[j] <;> simp

theorem Del.skip {Pa L : List Int} {n cap i j : Nat} {cs : List Value} (d : Del Pa L n cap i j cs) (hn : L.length = n) (hj : j < n) (h : hasB Pa (L.getD j 0) = true) : Del Pa L n cap i (j + 1) cs := by
  have e := take_succ_filter (Pa := Pa) (L := L) (j := j) (by omega)
  rw [h] at e
  simp only [if_true, List.append_nil] at e
  exact ⟨d.len, by have := d.lt; omega, hj, by rw [e]; exact d.kept, by rw [e]; exact d.low, fun k hk hkn => d.high k (by omega) hkn⟩
theorem Del.keep {Pa L : List Int} {n cap i j : Nat} {cs : List Value} (d : Del Pa L n cap i j cs) (hn : L.length = n) (hj : j < n) (hc : n ≤ cap) (h : hasB Pa (L.getD j 0) = false) : Del Pa L n cap (i + 1) (j + 1) (cs.set i (.int .i64 (L.getD j 0))) := by
  have e := take_succ_filter (Pa := Pa) (L := L) (j := j) (by omega)
  rw [h] at e
  have hlt := d.lt
  have hkp := d.kept
  have hl := d.len
  refine ⟨by simpa using d.len, by omega, hj, by rw [e]; simp; omega, fun k hk => ?_, fun k hk hkn => ?_⟩
  · rw [e, List.getElem?_set]
    by_cases hki : i = k
    · subst hki
      rw [if_pos rfl, if_pos (by omega)]
      congr 2
      simp only [Bool.false_eq_true, if_false]
      rw [hkp]
      simp [List.getD]
    · rw [if_neg hki, d.low k (by omega)]
      congr 2
      rw [List.getD_eq_getElem?_getD, List.getD_eq_getElem?_getD, List.getElem?_append_left (by omega)]
  · rw [List.getElem?_set, if_neg (by omega)]
    exact d.high k (by omega) hkn

theorem below_setCells {B : Nat} {a : World} (b : Nat) (hb : B ≤ b) : ∀ (vs : List Value) (o : Nat) {w : World}, Below B a w → Below B a (w.setCells b o vs)
  | [], _, _, h => h
  | v :: vs, o, w, h => below_setCells b hb vs (o + 1) (h.setCell (p := ⟨b, o, none⟩) hb v)

theorem take_all_filter {Pa L : List Int} (h : ∀ j, j < L.length → hasB Pa (L.getD j 0) = false) : L.filter (fun x => !hasB Pa x) = L := by
  apply List.filter_eq_self.2
  intro x hx
  obtain ⟨j, hj, rfl⟩ := List.getElem_of_mem hx
  have := h j hj
  simpa [List.getD, hj] using this

theorem del_start {Pa L : List Int} {n cap k0 : Nat} {cs : List Value} (hcs : cs.length = cap) (hnc : n ≤ cap) (hn : L.length = n) (hc : ∀ k, k < n → cs[k]? = some (.int .i64 (L.getD k 0))) (hk : k0 < n) (ht : hasB Pa (L.getD k0 0) = true) (hall : ∀ j, j < k0 → hasB Pa (L.getD j 0) = false) :
    Del Pa L n cap k0 (k0 + 1) cs := by
  have e := take_succ_filter (Pa := Pa) (L := L) (j := k0) (by omega)
  rw [ht] at e
  simp only [if_true, List.append_nil] at e
  have e2 : (L.take k0).filter (fun x => !hasB Pa x) = L.take k0 := take_all_filter (fun j hj => by
    have hj' : j < k0 := by simp at hj; omega
    have := hall j hj'
    simp [List.getD, hj'] at this ⊢
    exact this)
  rw [e2] at e
  refine ⟨hcs, by omega, hk, by rw [e]; simp; omega, fun k hk' => ?_, fun k h1 h2 => hc k h2⟩
  rw [e, hc k (by omega)]
  simp [List.getD, hk']

set_option maxRecDepth 100000 in
set_option maxHeartbeats 1000000 in
theorem deleteFunc41 (p : Value) (L Pa : List Int) (g n cap : Nat) (cs : List Value) (w : World) (hg : Blk w g 3 cs) (hcs : cs.length = cap) (hnc : n ≤ cap) (hcm : cap ≤ maxLen) (hLn : L.length = n) (hcell : ∀ k, k < n → cs[k]? = some (.int .i64 (L.getD k 0)))
    (hp : ∀ W, Below g w W → Ints W p Pa) (hn : n ≤ 1048576) (hPa : Pa.length ≤ 1048576) :
    Calls Ybaf.prog 41 #[.slice (some ⟨g, 0, none⟩) n cap, .func (.func 30) #[p] #[]] w fun e w' => ∃ r, e = .returned r ∧ Ints w' r (L.filter fun x => !hasB Pa x) ∧ Below g w w' := by
  have HS : Hid (Ints w (.slice (some ⟨g, 0, none⟩) n cap) L) := ⟨_, cap, by rw [hLn], by omega, hcm, fun i hi => ⟨g, 0, rfl, hg.lt, by rw [Nat.zero_add]; exact hg.cell i (hcell i (by omega))⟩⟩
  have HP : Hid (∀ W, Below g w W → Ints W p Pa) := hp
  have HC : Hid (∀ k, k < n → cs[k]? = some (.int .i64 (L.getD k 0))) := hcell
  have HG : Hid (Blk w g 3 cs) := hg
  have HN : Hid (L.length = n) := hLn
  clear hp hcell hg hLn
  go_enter Ybaf.func41, Ybaf.ntmps41
  go_wp2_with (go_at_call 59; refine (indexFunc59 _ _ L Pa _ HS.out (HP.out _ (Below.refl _ _)) (by rw [HN.out]; exact hn) hPa).mono ?_; rintro e w2 ⟨r, rfl, rfl, hr⟩; rcases hr with ⟨rfl, hall⟩ | ⟨k0, hk0, rfl, ht, hall⟩)
  · have HALL : Hid _ := hall
    clear hall
    go_wp2
    go_ret
    exact ⟨_, rfl, by rw [take_all_filter HALL.out]; exact HS.out, Below.refl _ _⟩
  · have hk0n : k0 < n := by rw [← HN.out]; exact hk0
    have D0 : Hid (Del Pa L n cap k0 (k0 + 1) cs) := del_start hcs hnc HN.out HC.out hk0n ht hall
    have hne1 : ((k0 : Int) == -1) = false := beq_eq_false_iff_ne.2 (by omega)
    clear hall ht hk0
    go_wp2_with fail
    simp only [hne1]
    go_loopw [5, 6, 7] (fun s5 s6 _ wr => ∃ (i j : Nat) (cu : List Value), s5 = .int .i64 i ∧ s6 = .int .i64 j ∧ Below g w2 wr ∧ Hid (Blk wr g 3 cu) ∧ Hid (Del Pa L n cap i j cu)) (fun _ s6 _ _ => n - (intOf s6).toNat)
    case atStart => exact ⟨k0, k0 + 1, cs, rfl, by have e : wrap64 ((k0 : Int) + 1) = ((k0 + 1 : Nat) : Int) := (by unfold wrap64; omega); simpa using e, Below.refl _ _, HG, D0⟩
    case round =>
      obtain ⟨i, j, cu, rfl, rfl, hb, HB, HD⟩ := hrel
      have hlt := HD.out.lt
      have hle := HD.out.le
      have hcl := HD.out.len
      by_cases hjn : j < n
      · have hcj := HB.out.cell j (HD.out.high j (Nat.le_refl _) hjn)
        obtain ⟨old, hold⟩ : ∃ old, cu[i]? = some old := ⟨_, List.getElem?_eq_getElem (by omega)⟩
        have hci := HB.out.cell i hold
        have hfi := HB.out.free i
        generalize hy : L.getD j 0 = y at hcj
        have HY : Hid _ := hy
        clear hy hold
        cases hq : hasB Pa y with
        | true =>
          have HQ : Hid _ := hq
          clear hq
          go_wp2_with (go_at_call 30; refine (has30 _ Pa _ _ (HP.out _ hb) hPa).mono ?_; rw [HQ.out]; rintro e w3 ⟨rfl, rfl⟩)
          go_roundw
          case rel => exact ⟨i, j + 1, cu, rfl, by go_num, hb, HB, HD.out.skip HN.out hjn (by rw [HY.out]; exact HQ.out)⟩
          case measure => simp [intOf]; omega
        | false =>
          have HQ : Hid _ := hq
          clear hq
          go_wp2_with (go_at_call 30; refine (has30 _ Pa _ _ (HP.out _ hb) hPa).mono ?_; rw [HQ.out]; rintro e w3 ⟨rfl, rfl⟩)
          go_roundw
          case rel =>
            refine ⟨i + 1, j + 1, cu.set i (.int .i64 y), by go_num, by go_num, hb.setCell (Nat.le_refl _) _, HB.out.set i _, ?_⟩
            have := HD.out.keep HN.out hjn hnc (by rw [HY.out]; exact HQ.out)
            rwa [HY.out] at this
          case measure => simp [intOf]; omega
      · obtain rfl : j = n := by omega
        have hcl : ∀ ty, (Builtin.clear_ #[27] ty #[.slice (some ⟨g, i, none⟩) (j - i) (cap - i)]).run Ybaf.prog wr = .ok (.tuple #[]) (wr.setCells g i (List.replicate (j - i) (.int .i64 0))) :=
          fun ty => Lib.run_clear_slice wr 27 3 ty (.int .i64 0) Ybaf.underlying27 Ybaf.zeroValue3 rfl rfl g i _ _ (by omega)
            (fun t ht => by rw [HB.out.cell (i + t) (List.getElem?_eq_getElem (by omega))]; rfl) (fun t ht => HB.out.free (i + t))
        go_wp2
        go_ret
        refine ⟨_, rfl, ?_, below_setCells g (Nat.le_refl _) _ _ hb⟩
        have hk := HD.out.kept
        have hlow := HD.out.low
        rw [List.take_of_length_le (by rw [HN.out]; exact Nat.le_refl _)] at hk hlow
        refine ⟨_, cap, by rw [← hk]; rfl, by omega, hcm, fun t ht => ⟨g, 0, rfl, ?_, ?_⟩⟩
        · have h1 := (below_setCells (B := g) g (Nat.le_refl _) (List.replicate (j - i) (.int .i64 0)) i (Below.refl g wr)).size
          have h2 := HB.out.lt
          omega
        · rw [World.cell?_setCells_out g _ _ _ _ (fun _ _ => .inl (by simp; omega)), Nat.zero_add]
          exact HB.out.cell t (hlow t (by omega))
end Go.Proofs.YbulkcvteFmt

/- Turns.following. -/
import Derived.Test.YbulkcvteFmtFoll
namespace Go.Proofs.YbulkcvteFmt
open Go.RowKit
set_option linter.unusedVariables false

/-- The members passed over above: those of Pa but those of Bk, then those of M that Pa does not hold. -/
def pasA (Bk Nx : List Int) (l : List Int) : List Int := l.foldl (fun acc m => if hasB Bk m then acc else addF Nx acc m) []
def pasB (Pa Nx : List Int) (acc : List Int) (l : List Int) : List Int := l.foldl (fun acc m => if hasB Pa m then acc else addF Nx acc m) acc
def passF (Pa M Bk Nx : List Int) : List Int := srt (pasB Pa Nx (pasA Bk Nx Pa) M)
/-- The speaker that produced the block. -/
def prodF (S Pa M : List Int) (h : Nat) : Int := if propIn S Pa h M < (liveOf S Pa).length then spk S Pa h (propIn S Pa h M) else -1
/-- What becomes of one member's lapse. -/
def lapStep (S Pa M : List Int) (La : List Lap) (h : Nat) (m : Int) : List Lap :=
  if m = prodF S Pa M h then [] else
  if hasB M m && !hasB Pa m then [⟨(lapseOf La m).v, min (lapseOf La m).m 65534 + 1, IntKind.u64.wrap (IntKind.u64.wrap ((h : Int) + 1) + holdOf (lapseOf La m).m S.length)⟩]
  else if (lapseOf La m).m > 0 then [lapseOf La m] else []
def lapsF (S Pa M Nx : List Int) (La : List Lap) (h : Nat) : List Lap := Nx.flatMap (lapStep S Pa M La h)

theorem foldl_take_succ {α β : Type} (f : α → β → α) (a : α) (l : List β) (k : Nat) (x : β) (hx : l[k]? = some x) : (l.take (k + 1)).foldl f a = f ((l.take k).foldl f a) x := by
  rw [List.take_add_one, hx, Option.toList_some, List.foldl_append]
  rfl
theorem get_getD {L : List Int} {k : Nat} (hk : k < L.length) : L[k]? = some (L.getD k 0) := by simp [List.getD, hk]
theorem fold_len (f : Int → Bool) (Nx : List Int) : ∀ (l acc : List Int), (l.foldl (fun acc m => if f m then acc else addF Nx acc m) acc).length ≤ acc.length + l.length
  | [], acc => Nat.le_refl _
  | x :: l, acc => by
    simp only [List.foldl_cons]
    refine Nat.le_trans (fold_len f Nx l _) ?_
    split
    · simp
    · have := addF_len Nx acc x
      simp; omega
/-- The lapses' own bounds. -/
def Good (La : List Lap) : Prop := ∀ x ∈ La, 0 ≤ x.m ∧ x.m < 65536
theorem lapseOf_good {La : List Lap} (hg : Good La) (m : Int) : 0 ≤ (lapseOf La m).m ∧ (lapseOf La m).m < 65536 := by
  unfold lapseOf
  split
  · rename_i hq
    unfold hasB at hq
    rw [vals_len] at hq
    simp at hq
    exact hg _ (lapAt_mem hq.1)
  · exact ⟨Int.le_refl _, by show (0 : Int) < 65536; decide⟩
theorem lapStep_len (S Pa M : List Int) (La : List Lap) (h : Nat) (m : Int) : (lapStep S Pa M La h m).length ≤ 1 := by
  unfold lapStep
  split
  · simp
  · split
    · simp
    · split <;> simp
theorem lapsF_len (S Pa M : List Int) (La : List Lap) (h : Nat) : ∀ Nx : List Int, (lapsF S Pa M Nx La h).length ≤ Nx.length
  | [] => Nat.le_refl _
  | x :: l => by
    have h1 := lapsF_len S Pa M La h l
    have h2 := lapStep_len S Pa M La h x
    unfold lapsF at *
    rw [List.flatMap_cons, List.length_append, List.length_cons]
    omega

theorem own_base {w : World} {B B' e k n : Nat} {v : Value} {xs : List Value} (h : w.ownsRow B e k v n xs) (hB : B' ≤ B) : w.ownsRow B' e k v n xs := by
  obtain ⟨h1, h2 | ⟨g, cap, cur, he, hg, hr⟩⟩ := h
  · exact ⟨h1, .inl h2⟩
  · exact ⟨h1, .inr ⟨g, cap, cur, he, Nat.le_trans hB hg, hr⟩⟩
theorem own_alloc {w : World} {B : Nat} {v : Value} {L : List Lap} (h : OwnL w B v L) (o : Obj) : OwnL (w.alloc o) B v L := h.later ((Below.refl _ _).alloc (Nat.le_refl _) _)

theorem app28N {w0 : World} {ops : Array Oper} {rest : List Oper} {o : Oper} {a : Act} {Q : Exit → Act → World → Prop} (N : Nat) (hN : w0.heap.size = N) (hgd : o.guard = none) (sl x : Operand)
    (ho : o.op = .call { callee := .builtin .append, args := #[sl, x], argTypes := #[28, 28] }) (B : Nat) (v : Value) (L : List Lap) (hs : a.eval sl = v) (hown : OwnL w0 B v L) (y1 y2 y3 : Int) (hx : a.eval x = .slice (some ⟨N, 0, none⟩) 1 1)
    (hn : L.length ≤ 1048576) (hB : B ≤ N)
    (hK : ∀ v' w', OwnL w' B v' (L ++ [⟨y1, y2, y3⟩]) → Below B w0 w' → wpList Ybaf.prog ops Q rest (a.put o.dst v') w') :
    wpList Ybaf.prog ops Q (o :: rest) a (w0.alloc (.cells #[.int .i64 y1, .int .u16 y2, .int .u64 y3] 31)) := by
  subst hN
  exact app28 hgd sl x ho B v L hs hown y1 y2 y3 hx hn hB hK

/-- Behind the sort: all below X stands; X holds v, which reads as L. -/
structure FSt (w0 w' : World) (X : Nat) (v : Value) (L : List Int) : Prop where
  b : Below X w0 w'
  x : Blk w' X 27 [v]
  i : OwnI w' (X + 1) v L
theorem FSt.later {w0 w' w'' : World} {X : Nat} {v : Value} {L : List Int} (h : FSt w0 w' X v L) (hb : Below w'.heap.size w' w'') : FSt w0 w'' X v L :=
  ⟨h.b.trans (hb.mono (Nat.le_of_lt h.x.lt)), h.x.later hb, h.i.later hb⟩

set_option maxRecDepth 100000 in
set_option maxHeartbeats 8000000 in
theorem following21 (s p l mi bk nx : Value) (S Pa M Bk Nx : List Int) (La : List Lap) (h : Nat) (w : World) (ht : Tn w s p l S Pa La) (hf : Fit S Pa La) (hmi : Ints w mi M) (hbk : Ints w bk Bk) (hnx : Ints w nx Nx)
    (hM : M.length ≤ 16) (hBk : Bk.length ≤ 1048576) (hN : 0 < Nx.length ∧ Nx.length ≤ 16) (hsm : Small La) (hgd : Good La) (bN : ∀ x ∈ Nx, -1048576 ≤ x ∧ x ≤ 1048576) (hh : h < 18446744073709551616) :
    Calls Ybaf.prog 21 #[.agg #[s, p, l], .int .u64 h, mi, bk, nx] w fun e w' => ∃ r1 r2, e = .returned (.agg #[nx, r1, r2]) ∧ OwnI w' w.heap.size r1 (passF Pa M Bk Nx) ∧ OwnL w' w.heap.size r2 (lapsF S Pa M Nx La h) ∧ Below w.heap.size w w' := by
  have HT : Hid (Tn w s p l S Pa La) := ht
  have HMi : Hid (Ints w mi M) := hmi
  have HBk : Hid (Ints w bk Bk) := hbk
  have HNx : Hid (Ints w nx Nx) := hnx
  obtain ⟨sa, sc, rfl, _, _, _⟩ := ht.s
  obtain ⟨pa, pc, rfl, _, _, hatP⟩ := ht.p
  obtain ⟨la, lc, rfl, _, _, _⟩ := ht.l
  obtain ⟨ma, mc, rfl, _, _, hatM⟩ := hmi
  obtain ⟨ka, kc, rfl, _, _, _⟩ := hbk
  obtain ⟨na, nc, rfl, _, _, hatN⟩ := hnx
  have HAP : Hid (At w pa Pa.length (cellI Pa)) := hatP
  have HAM : Hid (At w ma M.length (cellI M)) := hatM
  have HAN : Hid (At w na Nx.length (cellI Nx)) := hatN
  have HF : Hid (Fit S Pa La) := hf
  have HS : Hid (Small La) := hsm
  have HG : Hid (Good La) := hgd
  have BN : Hid _ := bN
  obtain ⟨hN0, hN1⟩ := hN
  have hP1 := hf.p1
  have hS1 := hf.s1
  have hL1 := hf.l1
  have hV1 := hf.v1
  clear ht hatP hatM hatN hf hsm hgd bN
  obtain ⟨X, hX⟩ : ∃ X, X = w.heap.size + 3 := ⟨_, rfl⟩
  obtain ⟨w0, hw0⟩ : ∃ w0, w0 = ((((w.alloc (.cells #[.slice sa S.length sc, .slice pa Pa.length pc, .slice la La.length lc] 83)).alloc (.cells #[.slice na Nx.length nc] 27)).alloc (.cells #[.slice none 0 0, .slice none 0 0, .slice none 0 0] 83)).alloc (.cells #[.slice none 0 0] 27)) := ⟨_, rfl⟩
  have Q0 : Hid (Blk w0 w.heap.size 83 [.slice sa S.length sc, .slice pa Pa.length pc, .slice la La.length lc]) := by rw [hw0]; exact (((Blk.new _ _ _).alloc _).alloc _).alloc _
  have Q1 : Hid (Blk w0 (w.heap.size + 1) 27 [.slice na Nx.length nc]) := by rw [hw0]; exact ((show Blk ((w.alloc _).alloc _) (w.heap.size + 1) 27 _ by simpa using Blk.new (w.alloc (.cells #[.slice sa S.length sc, .slice pa Pa.length pc, .slice la La.length lc] 83)) 27 #[.slice na Nx.length nc]).alloc _).alloc _
  have Q2 : Hid (Blk w0 (w.heap.size + 2) 83 [.slice none 0 0, .slice none 0 0, .slice none 0 0]) := by rw [hw0]; exact (show Blk (((w.alloc _).alloc _).alloc _) (w.heap.size + 2) 83 _ by simpa using Blk.new ((w.alloc (.cells #[.slice sa S.length sc, .slice pa Pa.length pc, .slice la La.length lc] 83)).alloc (.cells #[.slice na Nx.length nc] 27)) 83 #[.slice none 0 0, .slice none 0 0, .slice none 0 0]).alloc _
  have Q3 : Hid (Blk w0 X 27 [.slice none 0 0]) := by rw [hw0, hX]; simpa [Hid] using Blk.new (((w.alloc (.cells #[.slice sa S.length sc, .slice pa Pa.length pc, .slice la La.length lc] 83)).alloc (.cells #[.slice na Nx.length nc] 27)).alloc (.cells #[.slice none 0 0, .slice none 0 0, .slice none 0 0] 83)) 27 #[.slice none 0 0]
  have hbw0 : Below w.heap.size w w0 := by rw [hw0]; exact below_alloc (below_alloc (below_alloc ((Below.refl _ _).alloc (Nat.le_refl _) _) _) _) _
  obtain ⟨Y, hY⟩ : ∃ Y, Y = w.heap.size + 1 := ⟨_, rfl⟩
  obtain ⟨R, hR⟩ : ∃ R, R = w.heap.size + 2 := ⟨_, rfl⟩
  have E3 : Hid (w.heap.size + 1 + 1 + 1 = X) := hX.symm
  have E2 : Hid (w.heap.size + 1 + 1 = R) := hR.symm
  have E1 : Hid (w.heap.size + 1 = Y) := hY.symm
  rw [← hY] at Q1
  rw [← hR] at Q2
  have ha0 : w.heap.size < X := by omega
  have hYX : Y < X := by omega
  have hRX : R < X := by omega
  have hRw : w.heap.size < R := by omega
  have hXw : w.heap.size ≤ X := by omega
  clear hY hR
  have HW0 : Hid (w0 = _) := hw0
  clear hX hw0
  go_enter Ybaf.func21, Ybaf.ntmps21
  go_wp2_with fail
  rw [E3.out, E2.out, E1.out, ← HW0.out]
  go_loopw [14, 27] (fun _ i wr => ∃ (k : Nat) (v : Value), k ≤ Pa.length ∧ i = .int .i64 k ∧ Below X w0 wr ∧ Hid (Blk wr X 27 [v]) ∧ Hid (OwnI wr (X + 1) v (pasA Bk Nx (Pa.take k)))) (fun _ i _ => Pa.length - (intOf i).toNat)
  case atStart => exact ⟨0, .slice none 0 0, Nat.zero_le _, rfl, Below.refl _ _, Q3, OwnI.nil _ _⟩
  case round =>
    obtain ⟨k, v, hk, rfl, hb, HB, HO⟩ := hrel
    have hbw : Below w.heap.size w wr := hbw0.trans (hb.mono (by omega))
    have hx0 := (Q0.out.below hb (by omega)).cell 0 rfl
    have hx1 := (Q0.out.below hb (by omega)).cell 1 rfl
    have hx2 := (Q0.out.below hb (by omega)).cell 2 rfl
    have hy0 := (Q1.out.below hb (by omega)).cell 0 rfl
    have hlen := (show (pasA Bk Nx (Pa.take k)).length ≤ 1024 from Nat.le_trans (fold_len _ _ _ _) (by simp; omega))
    by_cases hkn : k < Pa.length
    · obtain ⟨eb, eo, ea, hebl, hcell⟩ := HAP.out.later hbw k hkn
      subst ea
      unfold cellI at hcell
      have hst := get_getD hkn
      generalize Pa.getD k 0 = m at hcell hst
      have HST : Hid _ := hst
      clear hst
      cases hq : hasB Bk m with
      | true =>
        have HQ : Hid _ := hq
        clear hq
        go_wp2_with (first
          | (go_at_call 30; refine (has30 _ Bk _ _ (HBk.out.later hbw) (by omega)).mono ?_; rw [HQ.out]; rintro e w3 ⟨rfl, rfl⟩))
        go_roundw
        case rel =>
          refine ⟨k + 1, v, by omega, by go_num, hb, HB, ?_⟩
          have h9 := HO.out
          unfold pasA at h9 ⊢
          rw [foldl_take_succ _ _ _ _ _ HST.out, if_pos HQ.out]
          exact h9
        case measure => simp [intOf]; omega
      | false =>
        have HQ : Hid _ := hq
        clear hq
        go_wp2_with (first
          | (go_at_call 30; refine (has30 _ Bk _ _ (HBk.out.later hbw) (by omega)).mono ?_; rw [HQ.out]; rintro e w3 ⟨rfl, rfl⟩)
          | (go_at_call 28; refine (add28 m _ _ v _ _ Nx _ HB.out HO.out hy0 (by omega) (HNx.out.later hbw) ⟨hN0, by omega⟩ hlen).mono ?_; rintro e w3 ⟨rfl, v', hB3, hO3, hb3⟩; have HB3 := Hid.mk hB3; have HO3 := Hid.mk hO3; clear hB3 hO3))
        go_roundw
        case rel =>
          refine ⟨k + 1, v', by omega, by go_num, hb.trans hb3, HB3, ?_⟩
          have h9 := HO3.out
          unfold pasA at h9 ⊢
          rw [foldl_take_succ _ _ _ _ _ HST.out, if_neg (by rw [HQ.out]; decide)]
          exact h9
        case measure => simp [intOf]; omega
    · obtain rfl : k = Pa.length := by omega
      have hfin : Pa.take Pa.length = Pa := List.take_length
      rw [hfin] at HO
      clear hfin
      go_wp2_with fail

      go_loopw [16, 41] (fun _ i wr => ∃ (k : Nat) (v : Value), k ≤ M.length ∧ i = .int .i64 k ∧ Below X w0 wr ∧ Hid (Blk wr X 27 [v]) ∧ Hid (OwnI wr (X + 1) v (pasB Pa Nx (pasA Bk Nx Pa) (M.take k)))) (fun _ i _ => M.length - (intOf i).toNat)
      case atStart => exact ⟨0, v, Nat.zero_le _, rfl, hb, HB, HO⟩
      case round =>
        obtain ⟨k, v, hk, rfl, hb, HB, HO⟩ := hrel
        have hbw : Below w.heap.size w wr := hbw0.trans (hb.mono (by omega))
        have hx0 := (Q0.out.below hb (by omega)).cell 0 rfl
        have hx1 := (Q0.out.below hb (by omega)).cell 1 rfl
        have hx2 := (Q0.out.below hb (by omega)).cell 2 rfl
        have hy0 := (Q1.out.below hb (by omega)).cell 0 rfl
        have hlen := (show (pasB Pa Nx (pasA Bk Nx Pa) (M.take k)).length ≤ 1024 from Nat.le_trans (fold_len _ _ _ _) (by have := fold_len (fun m => hasB Bk m) Nx Pa []; simp [pasA] at *; omega))
        by_cases hkn : k < M.length
        · obtain ⟨eb, eo, ea, hebl, hcell⟩ := HAM.out.later hbw k hkn
          subst ea
          unfold cellI at hcell
          have hst := get_getD hkn
          generalize M.getD k 0 = m at hcell hst
          have HST : Hid _ := hst
          clear hst
          cases hq : hasB Pa m with
          | true =>
            have HQ : Hid _ := hq
            clear hq
            go_wp2_with (first
              | (go_at_call 30; refine (has30 _ Pa _ _ (HT.out.p.later hbw) (by omega)).mono ?_; rw [HQ.out]; rintro e w3 ⟨rfl, rfl⟩))
            go_roundw
            case rel =>
              refine ⟨k + 1, v, by omega, by go_num, hb, HB, ?_⟩
              have h9 := HO.out
              unfold pasB at h9 ⊢
              rw [foldl_take_succ _ _ _ _ _ HST.out, if_pos HQ.out]
              exact h9
            case measure => simp [intOf]; omega
          | false =>
            have HQ : Hid _ := hq
            clear hq
            go_wp2_with (first
              | (go_at_call 30; refine (has30 _ Pa _ _ (HT.out.p.later hbw) (by omega)).mono ?_; rw [HQ.out]; rintro e w3 ⟨rfl, rfl⟩)
              | (go_at_call 28; refine (add28 m _ _ v _ _ Nx _ HB.out HO.out hy0 (by omega) (HNx.out.later hbw) ⟨hN0, by omega⟩ hlen).mono ?_; rintro e w3 ⟨rfl, v', hB3, hO3, hb3⟩; have HB3 := Hid.mk hB3; have HO3 := Hid.mk hO3; clear hB3 hO3))
            go_roundw
            case rel =>
              refine ⟨k + 1, v', by omega, by go_num, hb.trans hb3, HB3, ?_⟩
              have h9 := HO3.out
              unfold pasB at h9 ⊢
              rw [foldl_take_succ _ _ _ _ _ HST.out, if_neg (by rw [HQ.out]; decide)]
              exact h9
            case measure => simp [intOf]; omega
        · obtain rfl : k = M.length := by omega
          have hfin : M.take M.length = M := List.take_length
          rw [hfin] at HO
          clear hfin

          obtain ⟨va, vc, rfl⟩ := HO.out.shape
          have hv0 := HB.out.cell 0 rfl
          have hlen2 := hlen
          rw [List.take_length] at hlen2
          clear hx0 hx1 hx2 hy0 hlen
          go_wp2_with (first
            | (go_at_call 31; refine (sort31 _ _ (X + 1) _ HO.out (by omega) HB.out.lt).mono ?_; rintro e w4 ⟨rfl, hO4, hb4⟩; have F4 : Hid (FSt w0 w4 X (.slice va (pasB Pa Nx (pasA Bk Nx Pa) M).length vc) (passF Pa M Bk Nx)) := ⟨hb.trans (hb4.mono (Nat.le_succ _)), HB.out.below hb4 (Nat.lt_succ_self _), hO4⟩; have hbw4 : Below w.heap.size w w4 := hbw0.trans (F4.out.b.mono hXw); obtain ⟨x0, x1, x2⟩ := (⟨(Q0.out.below F4.out.b ha0).cell 0 rfl, (Q0.out.below F4.out.b ha0).cell 1 rfl, (Q0.out.below F4.out.b ha0).cell 2 rfl⟩ : _ ∧ _ ∧ _))
            | (go_at_call 22; refine (proposedIn22 _ _ _ _ S Pa M La h _ (HT.out.later hbw4) HF.out (HMi.out.later hbw4) (by omega) hh).mono ?_; rintro e w5 ⟨rfl, hb5⟩; have F5 := Hid.mk (F4.out.later hb5); have hbw5 : Below w.heap.size w w5 := hbw0.trans (F5.out.b.mono hXw); obtain ⟨x0, x1, x2⟩ := (⟨(Q0.out.below F5.out.b ha0).cell 0 rfl, (Q0.out.below F5.out.b ha0).cell 1 rfl, (Q0.out.below F5.out.b ha0).cell 2 rfl⟩ : _ ∧ _ ∧ _))
            | (go_at_call 32; refine (live32 _ _ _ S Pa la La.length lc _ (HT.out.s.later hbw5) (HT.out.p.later hbw5) rfl ⟨HF.out.s0, by omega⟩ (by omega)).mono ?_; rintro e w6 ⟨r, rfl, hr, hb6⟩; obtain ⟨ra, rc, rfl, _, _, _⟩ := hr; have F6 := Hid.mk (F5.out.later hb6); have hbw6 : Below w.heap.size w w6 := hbw0.trans (F6.out.b.mono hXw); obtain ⟨x0, x1, x2⟩ := (⟨(Q0.out.below F6.out.b ha0).cell 0 rfl, (Q0.out.below F6.out.b ha0).cell 1 rfl, (Q0.out.below F6.out.b ha0).cell 2 rfl⟩ : _ ∧ _ ∧ _); have hy6 := (Q1.out.below F6.out.b hYX).cell 0 rfl)
            | (go_at_call 33; refine (speaker33 _ _ _ S Pa La h (propIn S Pa h M) _ (HT.out.later hbw6) HF.out hh (by have := propGo_le S Pa h M (liveOf S Pa).length 0; unfold propIn; omega)).mono ?_; rintro e w7 ⟨rfl, hb7⟩; have F7 := Hid.mk (F6.out.later hb7); have hy7 := (Q1.out.below F7.out.b hYX).cell 0 rfl))
          · have hpp : Hid (prodF S Pa M h = spk S Pa h (propIn S Pa h M)) := (by unfold prodF; rw [if_pos (by omega)]; rfl)
            have hPR : Hid (prodF S Pa M h = (spk S Pa h (propIn S Pa h M))) := hpp
            clear x0 x1 x2
            go_loopw [19, 21, 22, 72] (fun x _ _ i wr3 => ∃ k : Nat, k ≤ Nx.length ∧ i = .int .i64 k ∧ Below w7.heap.size w7 wr3 ∧ OwnL wr3 w7.heap.size x (lapsF S Pa M (Nx.take k) La h)) (fun _ _ _ i _ => Nx.length - (intOf i).toNat)
            case atStart => exact ⟨0, Nat.zero_le _, rfl, Below.refl _ _, OwnL.nil _ _⟩
            case round =>
              obtain ⟨k, hk, rfl, hb3, hown⟩ := hrel
              have G3 := Hid.mk (F7.out.later hb3)
              have hbw3 : Below w.heap.size w wr := hbw0.trans (G3.out.b.mono hXw)
              have x0 := (Q0.out.below G3.out.b ha0).cell 0 rfl
              have x1 := (Q0.out.below G3.out.b ha0).cell 1 rfl
              have x2 := (Q0.out.below G3.out.b ha0).cell 2 rfl
              have hsz := hb3.size
              by_cases hkn : k < Nx.length
              · obtain ⟨eb, eo, ea, hebl, hcell⟩ := HAN.out.later hbw3 k hkn
                subst ea
                unfold cellI at hcell
                have hst := get_getD hkn
                have hbm := BN.out _ (getD_mem hkn)
                generalize Nx.getD k 0 = m at hcell hst hbm
                have HBM := Hid.mk hbm
                have hstep : lapsF S Pa M (Nx.take (k + 1)) La h = lapsF S Pa M (Nx.take k) La h ++ lapStep S Pa M La h m := by
                  unfold lapsF
                  rw [List.take_add_one, hst, Option.toList_some, List.flatMap_append]
                  simp
                have hll : (lapsF S Pa M (Nx.take k) La h).length ≤ 16 := Nat.le_trans (lapsF_len S Pa M La h _) (by simp; omega)
                obtain ⟨hy1, hy2⟩ := lapseOf_good HG.out m
                unfold lapStep at hstep
                rw [hPR.out] at hstep
                generalize hy : lapseOf La m = y at hy1 hy2 hstep
                have HY : Hid (lapseOf La m = y) := hy
                obtain ⟨y1, y2, y3⟩ := y
                simp only at hy1 hy2 hstep
                obtain ⟨y2, rfl⟩ : ∃ n : Nat, y2 = (n : Int) := ⟨y2.toNat, by omega⟩
                have hyN : y2 < 65536 := by omega
                clear hst hbm hy hy1 hy2
                by_cases hmp : m = (spk S Pa h (propIn S Pa h M))
                · rw [if_pos hmp, List.append_nil] at hstep
                  have HSTEP := Hid.mk hstep
                  have hmp' : (m == (spk S Pa h (propIn S Pa h M))) = true := by simpa using hmp
                  have HMP := Hid.mk hmp
                  clear hstep hmp
                  go_wp2_with (first
                    | (go_at_call 34; refine (lapse34 _ _ _ S Pa La m _ (HT.out.later hbw3) (by omega) HS.out HBM.out).mono ?_; rw [HY.out]; rintro e w8 ⟨rfl, hb8⟩; have hown2 := hown.later hb8; have hb2 := hb3.trans (hb8.mono hsz); have hbw8 := below_trans hbw3 hb8; have hs8 : w7.heap.size ≤ w8.heap.size := hb2.size; have G8 := G3.out.later hb8; have z0 : ∀ o, (w8.alloc o).cell? ⟨w.heap.size, 0, none⟩ = some (.slice sa S.length sc) := (fun o => (Q0.out.below (G8.later ((Below.refl _ _).alloc (Nat.le_refl _) o)).b ha0).cell 0 rfl); have z1 : ∀ o, (w8.alloc o).cell? ⟨w.heap.size, 1, none⟩ = some (.slice pa Pa.length pc) := (fun o => (Q0.out.below (G8.later ((Below.refl _ _).alloc (Nat.le_refl _) o)).b ha0).cell 1 rfl); clear hown G8))
                  go_roundw
                  case rel => exact ⟨k + 1, by omega, by go_num, hb2.alloc hs8 _, by rw [HSTEP.out]; exact own_alloc hown2 _⟩
                  case measure => simp [intOf]; omega
                · rw [if_neg hmp] at hstep
                  have hmp' : (m == (spk S Pa h (propIn S Pa h M))) = false := by simpa using hmp
                  clear hmp
                  by_cases hB : hasB M m = true ∧ hasB Pa m = false
                  · obtain ⟨hq1, hq2⟩ := hB
                    rw [hq1, hq2] at hstep
                    have HQ1 := Hid.mk hq1
                    have HQ2 := Hid.mk hq2
                    simp only [Bool.not_false, Bool.and_self, if_true] at hstep
                    obtain ⟨mm, hmm⟩ : ∃ mm : Nat, min (y2 : Int) 65534 = (mm : Int) := ⟨min y2 65534, by omega⟩
                    have hmm2 : mm ≤ 65534 := by omega
                    rw [hmm] at hstep
                    have HSTEP := Hid.mk hstep
                    clear hstep hq1 hq2
                    go_wp2_with (first
                      | (go_at_call 34; refine (lapse34 _ _ _ S Pa La m _ (HT.out.later hbw3) (by omega) HS.out HBM.out).mono ?_; rw [HY.out]; rintro e w8 ⟨rfl, hb8⟩; have hown2 := hown.later hb8; have hb2 := hb3.trans (hb8.mono hsz); have hbw8 := below_trans hbw3 hb8; have hs8 : w7.heap.size ≤ w8.heap.size := hb2.size; have G8 := G3.out.later hb8; have z0 : ∀ o, (w8.alloc o).cell? ⟨w.heap.size, 0, none⟩ = some (.slice sa S.length sc) := (fun o => (Q0.out.below (G8.later ((Below.refl _ _).alloc (Nat.le_refl _) o)).b ha0).cell 0 rfl); have z1 : ∀ o, (w8.alloc o).cell? ⟨w.heap.size, 1, none⟩ = some (.slice pa Pa.length pc) := (fun o => (Q0.out.below (G8.later ((Below.refl _ _).alloc (Nat.le_refl _) o)).b ha0).cell 1 rfl); clear hown G8)
                      | (go_at_call_of 30 (Value.slice ma M.length mc); refine (has30 (.slice ma M.length mc) M m _ (HMi.out.later (below_alloc hbw8 _)) (by omega)).mono ?_; rw [HQ1.out]; rintro e w3 ⟨rfl, rfl⟩) | (go_at_call_of 30 (Value.slice pa Pa.length pc); refine (has30 (.slice pa Pa.length pc) Pa m _ (HT.out.p.later (below_alloc hbw8 _)) (by omega)).mono ?_; rw [HQ2.out]; rintro e w3 ⟨rfl, rfl⟩)
                      | (go_at_call 35; refine (hold35 y2 S.length _ (by omega) (by omega)).mono ?_; rintro e w3 ⟨rfl, rfl⟩)
                      | (at_builtin; refine app28N (w8.heap.size + 1) (by simp) rfl _ _ rfl w7.heap.size _ _ rfl (own_alloc hown2 _) (y1) ((mm : Int) + 1) (IntKind.u64.wrap (IntKind.u64.wrap ((h : Int) + 1) + holdOf y2 S.length)) rfl (by omega) (by omega) ?_; intro x' w9 hown9 hb9; have hb9' := hb2.trans (((Below.refl _ _).alloc hs8 _).trans hb9)))
                    go_roundw
                    case rel => exact ⟨k + 1, by omega, by go_num, hb9', by rw [HSTEP.out]; exact hown9⟩
                    case measure => simp [intOf]; omega
                  · have hq : (hasB M m && !hasB Pa m) = false := by
                      cases h1 : hasB M m <;> cases h2 : hasB Pa m <;> simp_all
                    rw [hq] at hstep
                    simp only [Bool.false_eq_true, if_false] at hstep
                    clear hq
                    cases hq1 : hasB M m with
                    | false =>
                      have HQ1 := Hid.mk hq1
                      clear hq1 hB
                      by_cases hz : y2 = 0
                      · subst hz
                        rw [if_neg (by decide), List.append_nil] at hstep
                        have HSTEP := Hid.mk hstep
                        clear hstep
                        go_wp2_with (first
                          | (go_at_call 34; refine (lapse34 _ _ _ S Pa La m _ (HT.out.later hbw3) (by omega) HS.out HBM.out).mono ?_; rw [HY.out]; rintro e w8 ⟨rfl, hb8⟩; have hown2 := hown.later hb8; have hb2 := hb3.trans (hb8.mono hsz); have hbw8 := below_trans hbw3 hb8; have hs8 : w7.heap.size ≤ w8.heap.size := hb2.size; have G8 := G3.out.later hb8; have z0 : ∀ o, (w8.alloc o).cell? ⟨w.heap.size, 0, none⟩ = some (.slice sa S.length sc) := (fun o => (Q0.out.below (G8.later ((Below.refl _ _).alloc (Nat.le_refl _) o)).b ha0).cell 0 rfl); have z1 : ∀ o, (w8.alloc o).cell? ⟨w.heap.size, 1, none⟩ = some (.slice pa Pa.length pc) := (fun o => (Q0.out.below (G8.later ((Below.refl _ _).alloc (Nat.le_refl _) o)).b ha0).cell 1 rfl); clear hown G8)
                          | (go_at_call_of 30 (Value.slice ma M.length mc); refine (has30 (.slice ma M.length mc) M m _ (HMi.out.later (below_alloc hbw8 _)) (by omega)).mono ?_; rw [HQ1.out]; rintro e w3 ⟨rfl, rfl⟩))
                        go_roundw
                        case rel => exact ⟨k + 1, by omega, by go_num, hb2.alloc hs8 _, by rw [HSTEP.out]; exact own_alloc hown2 _⟩
                        case measure => simp [intOf]; omega
                      · rw [if_pos (by omega)] at hstep
                        have HSTEP := Hid.mk hstep
                        have hzp : (0 : Int) < (y2 : Int) := by omega
                        clear hstep hz
                        go_wp2_with (first
                          | (go_at_call 34; refine (lapse34 _ _ _ S Pa La m _ (HT.out.later hbw3) (by omega) HS.out HBM.out).mono ?_; rw [HY.out]; rintro e w8 ⟨rfl, hb8⟩; have hown2 := hown.later hb8; have hb2 := hb3.trans (hb8.mono hsz); have hbw8 := below_trans hbw3 hb8; have hs8 : w7.heap.size ≤ w8.heap.size := hb2.size; have G8 := G3.out.later hb8; have z0 : ∀ o, (w8.alloc o).cell? ⟨w.heap.size, 0, none⟩ = some (.slice sa S.length sc) := (fun o => (Q0.out.below (G8.later ((Below.refl _ _).alloc (Nat.le_refl _) o)).b ha0).cell 0 rfl); have z1 : ∀ o, (w8.alloc o).cell? ⟨w.heap.size, 1, none⟩ = some (.slice pa Pa.length pc) := (fun o => (Q0.out.below (G8.later ((Below.refl _ _).alloc (Nat.le_refl _) o)).b ha0).cell 1 rfl); clear hown G8)
                          | (go_at_call_of 30 (Value.slice ma M.length mc); refine (has30 (.slice ma M.length mc) M m _ (HMi.out.later (below_alloc hbw8 _)) (by omega)).mono ?_; rw [HQ1.out]; rintro e w3 ⟨rfl, rfl⟩)
                          | (at_builtin; refine app28N (w8.heap.size + 1) (by simp) rfl _ _ rfl w7.heap.size _ _ rfl (own_alloc hown2 _) (y1) (y2 : Int) (y3) rfl (by omega) (by omega) ?_; intro x' w9 hown9 hb9; have hb9' := hb2.trans (((Below.refl _ _).alloc hs8 _).trans hb9)))
                        go_roundw
                        case rel => exact ⟨k + 1, by omega, by go_num, hb9', by rw [HSTEP.out]; exact hown9⟩
                        case measure => simp [intOf]; omega
                    | true =>
                      have hq2 : hasB Pa m = true := by
                        cases h2 : hasB Pa m with
                        | true => rfl
                        | false => exact absurd ⟨hq1, h2⟩ hB
                      have HQ1 := Hid.mk hq1
                      have HQ2 := Hid.mk hq2
                      clear hq1 hq2 hB
                      by_cases hz : y2 = 0
                      · subst hz
                        rw [if_neg (by decide), List.append_nil] at hstep
                        have HSTEP := Hid.mk hstep
                        clear hstep
                        go_wp2_with (first
                          | (go_at_call 34; refine (lapse34 _ _ _ S Pa La m _ (HT.out.later hbw3) (by omega) HS.out HBM.out).mono ?_; rw [HY.out]; rintro e w8 ⟨rfl, hb8⟩; have hown2 := hown.later hb8; have hb2 := hb3.trans (hb8.mono hsz); have hbw8 := below_trans hbw3 hb8; have hs8 : w7.heap.size ≤ w8.heap.size := hb2.size; have G8 := G3.out.later hb8; have z0 : ∀ o, (w8.alloc o).cell? ⟨w.heap.size, 0, none⟩ = some (.slice sa S.length sc) := (fun o => (Q0.out.below (G8.later ((Below.refl _ _).alloc (Nat.le_refl _) o)).b ha0).cell 0 rfl); have z1 : ∀ o, (w8.alloc o).cell? ⟨w.heap.size, 1, none⟩ = some (.slice pa Pa.length pc) := (fun o => (Q0.out.below (G8.later ((Below.refl _ _).alloc (Nat.le_refl _) o)).b ha0).cell 1 rfl); clear hown G8)
                          | (go_at_call_of 30 (Value.slice ma M.length mc); refine (has30 (.slice ma M.length mc) M m _ (HMi.out.later (below_alloc hbw8 _)) (by omega)).mono ?_; rw [HQ1.out]; rintro e w3 ⟨rfl, rfl⟩)
                          | (go_at_call_of 30 (Value.slice pa Pa.length pc); refine (has30 (.slice pa Pa.length pc) Pa m _ (HT.out.p.later (below_alloc hbw8 _)) (by omega)).mono ?_; rw [HQ2.out]; rintro e w3 ⟨rfl, rfl⟩))
                        go_roundw
                        case rel => exact ⟨k + 1, by omega, by go_num, hb2.alloc hs8 _, by rw [HSTEP.out]; exact own_alloc hown2 _⟩
                        case measure => simp [intOf]; omega
                      · rw [if_pos (by omega)] at hstep
                        have HSTEP := Hid.mk hstep
                        have hzp : (0 : Int) < (y2 : Int) := by omega
                        clear hstep hz
                        go_wp2_with (first
                          | (go_at_call 34; refine (lapse34 _ _ _ S Pa La m _ (HT.out.later hbw3) (by omega) HS.out HBM.out).mono ?_; rw [HY.out]; rintro e w8 ⟨rfl, hb8⟩; have hown2 := hown.later hb8; have hb2 := hb3.trans (hb8.mono hsz); have hbw8 := below_trans hbw3 hb8; have hs8 : w7.heap.size ≤ w8.heap.size := hb2.size; have G8 := G3.out.later hb8; have z0 : ∀ o, (w8.alloc o).cell? ⟨w.heap.size, 0, none⟩ = some (.slice sa S.length sc) := (fun o => (Q0.out.below (G8.later ((Below.refl _ _).alloc (Nat.le_refl _) o)).b ha0).cell 0 rfl); have z1 : ∀ o, (w8.alloc o).cell? ⟨w.heap.size, 1, none⟩ = some (.slice pa Pa.length pc) := (fun o => (Q0.out.below (G8.later ((Below.refl _ _).alloc (Nat.le_refl _) o)).b ha0).cell 1 rfl); clear hown G8)
                          | (go_at_call_of 30 (Value.slice ma M.length mc); refine (has30 (.slice ma M.length mc) M m _ (HMi.out.later (below_alloc hbw8 _)) (by omega)).mono ?_; rw [HQ1.out]; rintro e w3 ⟨rfl, rfl⟩)
                          | (go_at_call_of 30 (Value.slice pa Pa.length pc); refine (has30 (.slice pa Pa.length pc) Pa m _ (HT.out.p.later (below_alloc hbw8 _)) (by omega)).mono ?_; rw [HQ2.out]; rintro e w3 ⟨rfl, rfl⟩)
                          | (at_builtin; refine app28N (w8.heap.size + 1) (by simp) rfl _ _ rfl w7.heap.size _ _ rfl (own_alloc hown2 _) (y1) (y2 : Int) (y3) rfl (by omega) (by omega) ?_; intro x' w9 hown9 hb9; have hb9' := hb2.trans (((Below.refl _ _).alloc hs8 _).trans hb9)))
                        go_roundw
                        case rel => exact ⟨k + 1, by omega, by go_num, hb9', by rw [HSTEP.out]; exact hown9⟩
                        case measure => simp [intOf]; omega
              · obtain rfl : k = Nx.length := by omega
                rw [List.take_length] at hown
                obtain ⟨xa, xc, rfl⟩ := hown.shape
                have r := Q2.out.below G3.out.b hRX
                have r0 := r.cell 0 rfl
                have r1 := r.cell 1 rfl
                have r2 := r.cell 2 rfl
                have f0 := r.free 0
                have f1 := r.free 1
                have f2 := r.free 2
                have y0 := (Q1.out.below G3.out.b hYX).cell 0 rfl
                have v0 := G3.out.x.cell 0 rfl
                have HRR := Hid.mk r
                have HOO := Hid.mk hown
                have hRW : R < w7.heap.size := Nat.lt_of_lt_of_le hRX (Nat.le_of_lt F7.out.x.lt)
                clear r hown x0 x1 x2
                go_wp2
                refine bodyPost_ret (results_cell_row rfl _ _ R 83 #[.slice na Nx.length nc, .slice va (pasB Pa Nx (pasA Bk Nx Pa) M).length vc, .slice xa (lapsF S Pa M Nx La h).length xc] (0, 0) _ rfl (((HRR.out.set 0 _).set 1 _).set 2 _) Ybaf.underlying83 rfl size83) rfl ?_
                refine ⟨_, _, rfl, ?_, ?_, ?_⟩
                · exact own_base (B := X + 1) (ownsRow_setCell_below (a := ⟨R, 2, none⟩) (ownsRow_setCell_below (a := ⟨R, 1, none⟩) (ownsRow_setCell_below (a := ⟨R, 0, none⟩) G3.out.i (by show R < X + 1; omega) _) (by show R < X + 1; omega) _) (by show R < X + 1; omega) _) (by omega)
                · exact own_base (B := w7.heap.size) (ownsRow_setCell_below (a := ⟨R, 2, none⟩) (ownsRow_setCell_below (a := ⟨R, 1, none⟩) (ownsRow_setCell_below (a := ⟨R, 0, none⟩) HOO.out hRW _) hRW _) hRW _) (by omega)
                · exact ((hbw3.setCell (p := ⟨R, 0, none⟩) (Nat.le_of_lt hRw) _).setCell (p := ⟨R, 1, none⟩) (Nat.le_of_lt hRw) _).setCell (p := ⟨R, 2, none⟩) (Nat.le_of_lt hRw) _
          · have hpp : Hid (prodF S Pa M h = -1) := (by unfold prodF; rw [if_neg (by omega)]; rfl)
            have hdec : decide (propIn S Pa h M < (liveOf S Pa).length) = false := by simp; omega
            simp only [hdec]
            clear hdec
            have hPR : Hid (prodF S Pa M h = (-1)) := hpp
            clear x0 x1 x2
            go_loopw [19, 21, 22, 72] (fun x _ _ i wr3 => ∃ k : Nat, k ≤ Nx.length ∧ i = .int .i64 k ∧ Below w6.heap.size w6 wr3 ∧ OwnL wr3 w6.heap.size x (lapsF S Pa M (Nx.take k) La h)) (fun _ _ _ i _ => Nx.length - (intOf i).toNat)
            case atStart => exact ⟨0, Nat.zero_le _, rfl, Below.refl _ _, OwnL.nil _ _⟩
            case round =>
              obtain ⟨k, hk, rfl, hb3, hown⟩ := hrel
              have G3 := Hid.mk (F6.out.later hb3)
              have hbw3 : Below w.heap.size w wr := hbw0.trans (G3.out.b.mono hXw)
              have x0 := (Q0.out.below G3.out.b ha0).cell 0 rfl
              have x1 := (Q0.out.below G3.out.b ha0).cell 1 rfl
              have x2 := (Q0.out.below G3.out.b ha0).cell 2 rfl
              have hsz := hb3.size
              by_cases hkn : k < Nx.length
              · obtain ⟨eb, eo, ea, hebl, hcell⟩ := HAN.out.later hbw3 k hkn
                subst ea
                unfold cellI at hcell
                have hst := get_getD hkn
                have hbm := BN.out _ (getD_mem hkn)
                generalize Nx.getD k 0 = m at hcell hst hbm
                have HBM := Hid.mk hbm
                have hstep : lapsF S Pa M (Nx.take (k + 1)) La h = lapsF S Pa M (Nx.take k) La h ++ lapStep S Pa M La h m := by
                  unfold lapsF
                  rw [List.take_add_one, hst, Option.toList_some, List.flatMap_append]
                  simp
                have hll : (lapsF S Pa M (Nx.take k) La h).length ≤ 16 := Nat.le_trans (lapsF_len S Pa M La h _) (by simp; omega)
                obtain ⟨hy1, hy2⟩ := lapseOf_good HG.out m
                unfold lapStep at hstep
                rw [hPR.out] at hstep
                generalize hy : lapseOf La m = y at hy1 hy2 hstep
                have HY : Hid (lapseOf La m = y) := hy
                obtain ⟨y1, y2, y3⟩ := y
                simp only at hy1 hy2 hstep
                obtain ⟨y2, rfl⟩ : ∃ n : Nat, y2 = (n : Int) := ⟨y2.toNat, by omega⟩
                have hyN : y2 < 65536 := by omega
                clear hst hbm hy hy1 hy2
                by_cases hmp : m = (-1)
                · rw [if_pos hmp, List.append_nil] at hstep
                  have HSTEP := Hid.mk hstep
                  have hmp' : (m == (-1)) = true := by simpa using hmp
                  have HMP := Hid.mk hmp
                  clear hstep hmp
                  go_wp2_with (first
                    | (go_at_call 34; refine (lapse34 _ _ _ S Pa La m _ (HT.out.later hbw3) (by omega) HS.out HBM.out).mono ?_; rw [HY.out]; rintro e w8 ⟨rfl, hb8⟩; have hown2 := hown.later hb8; have hb2 := hb3.trans (hb8.mono hsz); have hbw8 := below_trans hbw3 hb8; have hs8 : w6.heap.size ≤ w8.heap.size := hb2.size; have G8 := G3.out.later hb8; have z0 : ∀ o, (w8.alloc o).cell? ⟨w.heap.size, 0, none⟩ = some (.slice sa S.length sc) := (fun o => (Q0.out.below (G8.later ((Below.refl _ _).alloc (Nat.le_refl _) o)).b ha0).cell 0 rfl); have z1 : ∀ o, (w8.alloc o).cell? ⟨w.heap.size, 1, none⟩ = some (.slice pa Pa.length pc) := (fun o => (Q0.out.below (G8.later ((Below.refl _ _).alloc (Nat.le_refl _) o)).b ha0).cell 1 rfl); clear hown G8))
                  go_roundw
                  case rel => exact ⟨k + 1, by omega, by go_num, hb2.alloc hs8 _, by rw [HSTEP.out]; exact own_alloc hown2 _⟩
                  case measure => simp [intOf]; omega
                · rw [if_neg hmp] at hstep
                  have hmp' : (m == (-1)) = false := by simpa using hmp
                  clear hmp
                  by_cases hB : hasB M m = true ∧ hasB Pa m = false
                  · obtain ⟨hq1, hq2⟩ := hB
                    rw [hq1, hq2] at hstep
                    have HQ1 := Hid.mk hq1
                    have HQ2 := Hid.mk hq2
                    simp only [Bool.not_false, Bool.and_self, if_true] at hstep
                    obtain ⟨mm, hmm⟩ : ∃ mm : Nat, min (y2 : Int) 65534 = (mm : Int) := ⟨min y2 65534, by omega⟩
                    have hmm2 : mm ≤ 65534 := by omega
                    rw [hmm] at hstep
                    have HSTEP := Hid.mk hstep
                    clear hstep hq1 hq2
                    go_wp2_with (first
                      | (go_at_call 34; refine (lapse34 _ _ _ S Pa La m _ (HT.out.later hbw3) (by omega) HS.out HBM.out).mono ?_; rw [HY.out]; rintro e w8 ⟨rfl, hb8⟩; have hown2 := hown.later hb8; have hb2 := hb3.trans (hb8.mono hsz); have hbw8 := below_trans hbw3 hb8; have hs8 : w6.heap.size ≤ w8.heap.size := hb2.size; have G8 := G3.out.later hb8; have z0 : ∀ o, (w8.alloc o).cell? ⟨w.heap.size, 0, none⟩ = some (.slice sa S.length sc) := (fun o => (Q0.out.below (G8.later ((Below.refl _ _).alloc (Nat.le_refl _) o)).b ha0).cell 0 rfl); have z1 : ∀ o, (w8.alloc o).cell? ⟨w.heap.size, 1, none⟩ = some (.slice pa Pa.length pc) := (fun o => (Q0.out.below (G8.later ((Below.refl _ _).alloc (Nat.le_refl _) o)).b ha0).cell 1 rfl); clear hown G8)
                      | (go_at_call_of 30 (Value.slice ma M.length mc); refine (has30 (.slice ma M.length mc) M m _ (HMi.out.later (below_alloc hbw8 _)) (by omega)).mono ?_; rw [HQ1.out]; rintro e w3 ⟨rfl, rfl⟩) | (go_at_call_of 30 (Value.slice pa Pa.length pc); refine (has30 (.slice pa Pa.length pc) Pa m _ (HT.out.p.later (below_alloc hbw8 _)) (by omega)).mono ?_; rw [HQ2.out]; rintro e w3 ⟨rfl, rfl⟩)
                      | (go_at_call 35; refine (hold35 y2 S.length _ (by omega) (by omega)).mono ?_; rintro e w3 ⟨rfl, rfl⟩)
                      | (at_builtin; refine app28N (w8.heap.size + 1) (by simp) rfl _ _ rfl w6.heap.size _ _ rfl (own_alloc hown2 _) (y1) ((mm : Int) + 1) (IntKind.u64.wrap (IntKind.u64.wrap ((h : Int) + 1) + holdOf y2 S.length)) rfl (by omega) (by omega) ?_; intro x' w9 hown9 hb9; have hb9' := hb2.trans (((Below.refl _ _).alloc hs8 _).trans hb9)))
                    go_roundw
                    case rel => exact ⟨k + 1, by omega, by go_num, hb9', by rw [HSTEP.out]; exact hown9⟩
                    case measure => simp [intOf]; omega
                  · have hq : (hasB M m && !hasB Pa m) = false := by
                      cases h1 : hasB M m <;> cases h2 : hasB Pa m <;> simp_all
                    rw [hq] at hstep
                    simp only [Bool.false_eq_true, if_false] at hstep
                    clear hq
                    cases hq1 : hasB M m with
                    | false =>
                      have HQ1 := Hid.mk hq1
                      clear hq1 hB
                      by_cases hz : y2 = 0
                      · subst hz
                        rw [if_neg (by decide), List.append_nil] at hstep
                        have HSTEP := Hid.mk hstep
                        clear hstep
                        go_wp2_with (first
                          | (go_at_call 34; refine (lapse34 _ _ _ S Pa La m _ (HT.out.later hbw3) (by omega) HS.out HBM.out).mono ?_; rw [HY.out]; rintro e w8 ⟨rfl, hb8⟩; have hown2 := hown.later hb8; have hb2 := hb3.trans (hb8.mono hsz); have hbw8 := below_trans hbw3 hb8; have hs8 : w6.heap.size ≤ w8.heap.size := hb2.size; have G8 := G3.out.later hb8; have z0 : ∀ o, (w8.alloc o).cell? ⟨w.heap.size, 0, none⟩ = some (.slice sa S.length sc) := (fun o => (Q0.out.below (G8.later ((Below.refl _ _).alloc (Nat.le_refl _) o)).b ha0).cell 0 rfl); have z1 : ∀ o, (w8.alloc o).cell? ⟨w.heap.size, 1, none⟩ = some (.slice pa Pa.length pc) := (fun o => (Q0.out.below (G8.later ((Below.refl _ _).alloc (Nat.le_refl _) o)).b ha0).cell 1 rfl); clear hown G8)
                          | (go_at_call_of 30 (Value.slice ma M.length mc); refine (has30 (.slice ma M.length mc) M m _ (HMi.out.later (below_alloc hbw8 _)) (by omega)).mono ?_; rw [HQ1.out]; rintro e w3 ⟨rfl, rfl⟩))
                        go_roundw
                        case rel => exact ⟨k + 1, by omega, by go_num, hb2.alloc hs8 _, by rw [HSTEP.out]; exact own_alloc hown2 _⟩
                        case measure => simp [intOf]; omega
                      · rw [if_pos (by omega)] at hstep
                        have HSTEP := Hid.mk hstep
                        have hzp : (0 : Int) < (y2 : Int) := by omega
                        clear hstep hz
                        go_wp2_with (first
                          | (go_at_call 34; refine (lapse34 _ _ _ S Pa La m _ (HT.out.later hbw3) (by omega) HS.out HBM.out).mono ?_; rw [HY.out]; rintro e w8 ⟨rfl, hb8⟩; have hown2 := hown.later hb8; have hb2 := hb3.trans (hb8.mono hsz); have hbw8 := below_trans hbw3 hb8; have hs8 : w6.heap.size ≤ w8.heap.size := hb2.size; have G8 := G3.out.later hb8; have z0 : ∀ o, (w8.alloc o).cell? ⟨w.heap.size, 0, none⟩ = some (.slice sa S.length sc) := (fun o => (Q0.out.below (G8.later ((Below.refl _ _).alloc (Nat.le_refl _) o)).b ha0).cell 0 rfl); have z1 : ∀ o, (w8.alloc o).cell? ⟨w.heap.size, 1, none⟩ = some (.slice pa Pa.length pc) := (fun o => (Q0.out.below (G8.later ((Below.refl _ _).alloc (Nat.le_refl _) o)).b ha0).cell 1 rfl); clear hown G8)
                          | (go_at_call_of 30 (Value.slice ma M.length mc); refine (has30 (.slice ma M.length mc) M m _ (HMi.out.later (below_alloc hbw8 _)) (by omega)).mono ?_; rw [HQ1.out]; rintro e w3 ⟨rfl, rfl⟩)
                          | (at_builtin; refine app28N (w8.heap.size + 1) (by simp) rfl _ _ rfl w6.heap.size _ _ rfl (own_alloc hown2 _) (y1) (y2 : Int) (y3) rfl (by omega) (by omega) ?_; intro x' w9 hown9 hb9; have hb9' := hb2.trans (((Below.refl _ _).alloc hs8 _).trans hb9)))
                        go_roundw
                        case rel => exact ⟨k + 1, by omega, by go_num, hb9', by rw [HSTEP.out]; exact hown9⟩
                        case measure => simp [intOf]; omega
                    | true =>
                      have hq2 : hasB Pa m = true := by
                        cases h2 : hasB Pa m with
                        | true => rfl
                        | false => exact absurd ⟨hq1, h2⟩ hB
                      have HQ1 := Hid.mk hq1
                      have HQ2 := Hid.mk hq2
                      clear hq1 hq2 hB
                      by_cases hz : y2 = 0
                      · subst hz
                        rw [if_neg (by decide), List.append_nil] at hstep
                        have HSTEP := Hid.mk hstep
                        clear hstep
                        go_wp2_with (first
                          | (go_at_call 34; refine (lapse34 _ _ _ S Pa La m _ (HT.out.later hbw3) (by omega) HS.out HBM.out).mono ?_; rw [HY.out]; rintro e w8 ⟨rfl, hb8⟩; have hown2 := hown.later hb8; have hb2 := hb3.trans (hb8.mono hsz); have hbw8 := below_trans hbw3 hb8; have hs8 : w6.heap.size ≤ w8.heap.size := hb2.size; have G8 := G3.out.later hb8; have z0 : ∀ o, (w8.alloc o).cell? ⟨w.heap.size, 0, none⟩ = some (.slice sa S.length sc) := (fun o => (Q0.out.below (G8.later ((Below.refl _ _).alloc (Nat.le_refl _) o)).b ha0).cell 0 rfl); have z1 : ∀ o, (w8.alloc o).cell? ⟨w.heap.size, 1, none⟩ = some (.slice pa Pa.length pc) := (fun o => (Q0.out.below (G8.later ((Below.refl _ _).alloc (Nat.le_refl _) o)).b ha0).cell 1 rfl); clear hown G8)
                          | (go_at_call_of 30 (Value.slice ma M.length mc); refine (has30 (.slice ma M.length mc) M m _ (HMi.out.later (below_alloc hbw8 _)) (by omega)).mono ?_; rw [HQ1.out]; rintro e w3 ⟨rfl, rfl⟩)
                          | (go_at_call_of 30 (Value.slice pa Pa.length pc); refine (has30 (.slice pa Pa.length pc) Pa m _ (HT.out.p.later (below_alloc hbw8 _)) (by omega)).mono ?_; rw [HQ2.out]; rintro e w3 ⟨rfl, rfl⟩))
                        go_roundw
                        case rel => exact ⟨k + 1, by omega, by go_num, hb2.alloc hs8 _, by rw [HSTEP.out]; exact own_alloc hown2 _⟩
                        case measure => simp [intOf]; omega
                      · rw [if_pos (by omega)] at hstep
                        have HSTEP := Hid.mk hstep
                        have hzp : (0 : Int) < (y2 : Int) := by omega
                        clear hstep hz
                        go_wp2_with (first
                          | (go_at_call 34; refine (lapse34 _ _ _ S Pa La m _ (HT.out.later hbw3) (by omega) HS.out HBM.out).mono ?_; rw [HY.out]; rintro e w8 ⟨rfl, hb8⟩; have hown2 := hown.later hb8; have hb2 := hb3.trans (hb8.mono hsz); have hbw8 := below_trans hbw3 hb8; have hs8 : w6.heap.size ≤ w8.heap.size := hb2.size; have G8 := G3.out.later hb8; have z0 : ∀ o, (w8.alloc o).cell? ⟨w.heap.size, 0, none⟩ = some (.slice sa S.length sc) := (fun o => (Q0.out.below (G8.later ((Below.refl _ _).alloc (Nat.le_refl _) o)).b ha0).cell 0 rfl); have z1 : ∀ o, (w8.alloc o).cell? ⟨w.heap.size, 1, none⟩ = some (.slice pa Pa.length pc) := (fun o => (Q0.out.below (G8.later ((Below.refl _ _).alloc (Nat.le_refl _) o)).b ha0).cell 1 rfl); clear hown G8)
                          | (go_at_call_of 30 (Value.slice ma M.length mc); refine (has30 (.slice ma M.length mc) M m _ (HMi.out.later (below_alloc hbw8 _)) (by omega)).mono ?_; rw [HQ1.out]; rintro e w3 ⟨rfl, rfl⟩)
                          | (go_at_call_of 30 (Value.slice pa Pa.length pc); refine (has30 (.slice pa Pa.length pc) Pa m _ (HT.out.p.later (below_alloc hbw8 _)) (by omega)).mono ?_; rw [HQ2.out]; rintro e w3 ⟨rfl, rfl⟩)
                          | (at_builtin; refine app28N (w8.heap.size + 1) (by simp) rfl _ _ rfl w6.heap.size _ _ rfl (own_alloc hown2 _) (y1) (y2 : Int) (y3) rfl (by omega) (by omega) ?_; intro x' w9 hown9 hb9; have hb9' := hb2.trans (((Below.refl _ _).alloc hs8 _).trans hb9)))
                        go_roundw
                        case rel => exact ⟨k + 1, by omega, by go_num, hb9', by rw [HSTEP.out]; exact hown9⟩
                        case measure => simp [intOf]; omega
              · obtain rfl : k = Nx.length := by omega
                rw [List.take_length] at hown
                obtain ⟨xa, xc, rfl⟩ := hown.shape
                have r := Q2.out.below G3.out.b hRX
                have r0 := r.cell 0 rfl
                have r1 := r.cell 1 rfl
                have r2 := r.cell 2 rfl
                have f0 := r.free 0
                have f1 := r.free 1
                have f2 := r.free 2
                have y0 := (Q1.out.below G3.out.b hYX).cell 0 rfl
                have v0 := G3.out.x.cell 0 rfl
                have HRR := Hid.mk r
                have HOO := Hid.mk hown
                have hRW : R < w6.heap.size := Nat.lt_of_lt_of_le hRX (Nat.le_of_lt F6.out.x.lt)
                clear r hown x0 x1 x2
                go_wp2
                refine bodyPost_ret (results_cell_row rfl _ _ R 83 #[.slice na Nx.length nc, .slice va (pasB Pa Nx (pasA Bk Nx Pa) M).length vc, .slice xa (lapsF S Pa M Nx La h).length xc] (0, 0) _ rfl (((HRR.out.set 0 _).set 1 _).set 2 _) Ybaf.underlying83 rfl size83) rfl ?_
                refine ⟨_, _, rfl, ?_, ?_, ?_⟩
                · exact own_base (B := X + 1) (ownsRow_setCell_below (a := ⟨R, 2, none⟩) (ownsRow_setCell_below (a := ⟨R, 1, none⟩) (ownsRow_setCell_below (a := ⟨R, 0, none⟩) G3.out.i (by show R < X + 1; omega) _) (by show R < X + 1; omega) _) (by show R < X + 1; omega) _) (by omega)
                · exact own_base (B := w6.heap.size) (ownsRow_setCell_below (a := ⟨R, 2, none⟩) (ownsRow_setCell_below (a := ⟨R, 1, none⟩) (ownsRow_setCell_below (a := ⟨R, 0, none⟩) HOO.out hRW _) hRW _) hRW _) (by omega)
                · exact ((hbw3.setCell (p := ⟨R, 0, none⟩) (Nat.le_of_lt hRw) _).setCell (p := ⟨R, 1, none⟩) (Nat.le_of_lt hRw) _).setCell (p := ⟨R, 2, none⟩) (Nat.le_of_lt hRw) _
end Go.Proofs.YbulkcvteFmt

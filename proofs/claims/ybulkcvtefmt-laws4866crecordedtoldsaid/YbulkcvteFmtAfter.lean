/- Engine.turnsAfter. -/
import Derived.Test.YbulkcvteFmtFollow
namespace Go.Proofs.YbulkcvteFmt
open Go.RowKit
set_option linter.unusedVariables false

/-- A commit: who, and the one byte that it signs with. -/
structure Sig where
  v : Int
  x : Int
def sigAt (L : List Sig) (i : Nat) : Sig := L.getD i ⟨0, 0⟩
/-- The address a holds the commits L: a member, and a slice of one byte. -/
def AtS (w : World) (a : Option Addr) (L : List Sig) : Prop := ∀ i, i < L.length → ∃ b o g, a = some ⟨b, o, none⟩ ∧ b < w.heap.size ∧ g < w.heap.size ∧
  w.cell? ⟨b, o + i * 2, none⟩ = some (.int .i64 (sigAt L i).v) ∧ w.cell? ⟨b, o + i * 2 + 1, none⟩ = some (.slice (some ⟨g, 0, none⟩) 1 1) ∧ w.cell? ⟨g, 0, none⟩ = some (.int .u8 (sigAt L i).x)
theorem AtS.later {w w' : World} {a : Option Addr} {L : List Sig} (h : AtS w a L) (hb : Below w.heap.size w w') : AtS w' a L := fun i hi => by
  obtain ⟨b, o, g, e, hlt, hg, h1, h2, h3⟩ := h i hi
  exact ⟨b, o, g, e, Nat.lt_of_lt_of_le hlt hb.size, Nat.lt_of_lt_of_le hg hb.size, by rw [hb.cell hlt]; exact h1, by rw [hb.cell hlt]; exact h2, by rw [hb.cell hg]; exact h3⟩
def Sigs (w : World) (s : Value) (L : List Sig) : Prop := ∃ a c, s = .slice a L.length c ∧ AtS w a L
theorem Sigs.later {w w' : World} {s : Value} {L : List Sig} (h : Sigs w s L) (hb : Below w.heap.size w w') : Sigs w' s L := by
  obtain ⟨a, c, e, h3⟩ := h
  exact ⟨a, c, e, h3.later hb⟩

/-- The engine's block E, as it reads. -/
structure Eng (w : World) (E : Nat) (s p l : Value) (h : Nat) : Prop where
  lt : E < w.heap.size
  s : w.cell? ⟨E, 81, none⟩ = some s
  p : w.cell? ⟨E, 86, none⟩ = some p
  l : w.cell? ⟨E, 87, none⟩ = some l
  h : w.cell? ⟨E, 94, none⟩ = some (.int .u64 h)
theorem Eng.later {w w' : World} {E : Nat} {s p l : Value} {h : Nat} (e : Eng w E s p l h) (hb : Below w.heap.size w w') : Eng w' E s p l h :=
  ⟨Nat.lt_of_lt_of_le e.lt hb.size, by rw [hb.cell e.lt]; exact e.s, by rw [hb.cell e.lt]; exact e.p, by rw [hb.cell e.lt]; exact e.l, by rw [hb.cell e.lt]; exact e.h⟩

/-- A load of a whole struct that fills its block. -/
theorem exec_load_row {P : Program} {o : Oper} {a : Act} {w : World} (ty : TypeId) (x : Operand) (ho : o.op = .load ty x) (g : Nat) (hx : a.eval x = .pointer (some ⟨g, 0, none⟩)) (t : TypeId) (cs : Array Value) (fr : Nat × Nat) (d : TypeDesc) (hg : w.heap[g]? = some (.cells cs t fr))
    (hu : P.underlying ty = some d) (hd : (match d with | .struct _ | .array _ _ => true | _ => false) = true) (hi : (P.info? ty).map (·.size) = some cs.size) : (execOp a.eval o).run P w = .ok (.value (.agg cs)) w := by
  unfold execOp
  simp only [ho, hx, Instr.loadAt, Instr.sureAddr, Sem.run_bind, Sem.run_pure, Result.andThen_ok, run_loadVar_row w g t ty cs fr d hg hu hd hi]
theorem size39 : (Ybaf.prog.info? 39).map (·.size) = some 41 := by kernel_rfl

theorem chain_nil {P : Program} {ops : Array Oper} {C : World → Prop} {Q : Act → World → Prop} {a : Act} {w : World} (h : Q a w) : chain P ops C Q [] a w := h
theorem app27N {w0 : World} {ops : Array Oper} {rest : List Oper} {o : Oper} {a : Act} {Q : Exit → Act → World → Prop} (N : Nat) (hN : w0.heap.size = N) (hgd : o.guard = none) (sl x : Operand)
    (ho : o.op = .call { callee := .builtin .append, args := #[sl, x], argTypes := #[27, 27] }) (B : Nat) (v : Value) (L : List Int) (hs : a.eval sl = v) (hown : OwnI w0 B v L) (y : Int) (hx : a.eval x = .slice (some ⟨N, 0, none⟩) 1 1)
    (hn : L.length ≤ 1048576) (hB : B ≤ N)
    (hK : ∀ v' w', OwnI w' B v' (L ++ [y]) → Below B w0 w' → wpList Ybaf.prog ops Q rest (a.put o.dst v') w') :
    wpList Ybaf.prog ops Q (o :: rest) a (w0.alloc (.cells #[.int .i64 y] 3)) := by
  subst hN
  exact app27 hgd sl x ho B v L hs hown y hx hn hB hK

theorem Ints.shape {w : World} {s : Value} {L : List Int} (h : Ints w s L) : ∃ a n c, s = .slice a n c := by
  obtain ⟨a, c, e, _⟩ := h
  exact ⟨a, _, c, e⟩
theorem Laps.shape {w : World} {s : Value} {L : List Lap} (h : Laps w s L) : ∃ a n c, s = .slice a n c := by
  obtain ⟨a, c, e, _⟩ := h
  exact ⟨a, _, c, e⟩
theorem stepR {P : Program} {ops : Array Oper} {C : World → Prop} {Q : Act → World → Prop} {l : List (Nat × Bool)} {i : Nat} {o : Oper} {a : Act} {w : World} (d : Option Tmp) (v : Value) (ho : ops[i]? = some o) (hd : o.dst = d) (hq : Region.wanted o (yielded ops a.tmps) = true) (hv : ∀ w', C w' → (execOp a.eval o).run P w' = .ok (.value v) w') (h : chain P ops C Q l (a.put d v) w) : chain P ops C Q ((i, true) :: l) a w := by
  subst hd
  exact chain_still ho hq hv h
theorem stepN {P : Program} {ops : Array Oper} {C : World → Prop} {Q : Act → World → Prop} {l : List (Nat × Bool)} {i : Nat} {o : Oper} {a : Act} {w : World} (d : Option Tmp) (ho : ops[i]? = some o) (hd : o.dst = d) (hq : Region.wanted o (yielded ops a.tmps) = false) (h : chain P ops C Q l (a.put d undef) w) : chain P ops C Q ((i, true) :: l) a w := by
  subst hd
  exact chain_not ho hq h
theorem stepC {P : Program} {ops : Array Oper} {C : World → Prop} {Q : Act → World → Prop} {l : List (Nat × Bool)} {i : Nat} {o : Oper} {a : Act} {w : World} (d : Option Tmp) {f : FuncId} {args : Array Value} {R : Value → World → Prop} (ho : ops[i]? = some o) (hd : o.dst = d) (hq : Region.wanted o (yielded ops a.tmps) = true) (he : (execOp a.eval o).run P w = .ok (.enter f args) w)
    (hc : Calls P f args w fun e w' => ∃ v, e = .returned v ∧ R v w') (h : ∀ v w', R v w' → C w' ∧ chain P ops C Q l (a.put d v) w') : chain P ops C Q ((i, false) :: l) a w := by
  subst hd
  exact chain_call ho hq he hc h
theorem stepO {P : Program} {ops : Array Oper} {C : World → Prop} {Q : Act → World → Prop} {l : List (Nat × Bool)} {i : Nat} {o : Oper} {a : Act} {w : World} (d : Option Tmp) (w1 : World) {n : Next} {u : Value} (ho : ops[i]? = some o) (hd : o.dst = d) (hq : Region.wanted o (yielded ops a.tmps) = true) (hr : (execOp a.eval o).run P w = .ok n w1) (hn : n = .value u ∨ (n = .skip ∧ u = undef))
    (hC : C w1) (h : chain P ops C Q l (a.put d u) w1) : chain P ops C Q ((i, false) :: l) a w := by
  subst hd
  exact chain_op ho hq hr hn hC h
theorem bk_len (Bs : List Sig) : (Bs.map Sig.v).length = Bs.length := List.length_map _

set_option maxRecDepth 100000 in
set_option maxHeartbeats 8000000 in
theorem turnsAfter10 (E : Nat) (s p l mi bs : Value) (S Pa M : List Int) (La : List Lap) (Bs : List Sig) (cs : Array Value) (h : Nat) (w : World) (he : Eng w E s p l h) (ht : Tn w s p l S Pa La) (hf : Fit S Pa La) (hmi : Ints w mi M) (hbs : Sigs w bs Bs)
    (hcs : cs.size = 41) (h33 : cs[33]? = some (.slice none 0 0)) (h34 : cs[34]? = some mi) (h36 : cs[36]? = some bs)
    (hM : M.length ≤ 16) (hBs : Bs.length ≤ 1024) (hsm : Small La) (hgd : Good La) (bS : ∀ x ∈ S, -1048576 ≤ x ∧ x ≤ 1048576) (hh : h < 18446744073709551616) :
    Calls Ybaf.prog 10 #[.pointer (some ⟨E, 0, none⟩), .agg cs] w fun e w' => ∃ r1 r2, e = .returned (.agg #[s, r1, r2]) ∧ OwnI w' w.heap.size r1 (passF Pa M (Bs.map Sig.v) S) ∧ OwnL w' w.heap.size r2 (lapsF S Pa M S La h) ∧ Below w.heap.size w w' := by
  have HE : Hid (Eng w E s p l h) := he
  have HT : Hid (Tn w s p l S Pa La) := ht
  have HMi : Hid (Ints w mi M) := hmi
  have HBs : Hid (Sigs w bs Bs) := hbs
  obtain ⟨sa, sc, rfl, _, _, _⟩ := ht.s
  obtain ⟨pa, pc, rfl, _, _, _⟩ := ht.p
  obtain ⟨la, lc, rfl, _, _, _⟩ := ht.l
  obtain ⟨ma, mc, rfl, _, _, _⟩ := hmi
  obtain ⟨ba, bc, rfl, hatB⟩ := hbs
  have HAB : Hid (AtS w ba Bs) := hatB
  have HF : Hid (Fit S Pa La) := hf
  have HS : Hid (Small La) := hsm
  have HG : Hid (Good La) := hgd
  have BS : Hid (∀ x ∈ S, -1048576 ≤ x ∧ x ≤ 1048576) := bS
  clear he ht hatB hf hsm hgd bS
  obtain ⟨w0, hw0⟩ : ∃ w0, w0 = (w.alloc (.cells cs 39)).alloc (.cells #[.slice none 0 0, .slice none 0 0, .slice none 0 0] 83) := ⟨_, rfl⟩
  have Q0 : Hid (Blk w0 w.heap.size 39 cs.toList) := by rw [hw0]; exact (Blk.new w 39 cs).alloc _
  have Q1 : Hid (Blk w0 (w.heap.size + 1) 83 [.slice none 0 0, .slice none 0 0, .slice none 0 0]) := by rw [hw0]; simpa [Hid] using Blk.new (w.alloc (.cells cs 39)) 83 #[.slice none 0 0, .slice none 0 0, .slice none 0 0]
  have hb0 : Below w.heap.size w w0 := by rw [hw0]; exact below_alloc ((Below.refl _ _).alloc (Nat.le_refl _) _) _
  have HW0 : Hid (w0 = _) := hw0
  clear hw0
  go_enter Ybaf.func10, Ybaf.ntmps10
  go_wp2_with fail
  rw [← HW0.out]
  have hl0 : w.heap.size + 1 < w0.heap.size := Q1.out.lt
  refine wp_region_can (fun W => Below w0.heap.size w0 W) [(0, true), (1, true), (2, true), (3, true), (4, false), (5, true)] (by kernel_rfl) (by kernel_rfl) (by kernel_rfl) rfl (Below.refl _ _).drew ?_
  refine stepR (some 9) (.pointer (some ⟨E, 0, none⟩)) rfl rfl rfl (fun W hW => by go_simp) ?_
  refine stepR (some 10) (.pointer (some ⟨E, 0, none⟩)) rfl rfl rfl (fun W hW => by go_simp) ?_
  refine stepR (some 11) (.pointer (some ⟨E, 81, none⟩)) rfl rfl rfl (fun W hW => by go_simp) ?_
  refine stepR (some 12) (.agg cs) rfl rfl rfl (fun W hW => exec_load_row 39 (.tmp 3) rfl w.heap.size rfl 39 cs (0, 0) _ (by have := Q0.out.later hW; unfold Blk at this; simpa using this) Ybaf.underlying39 rfl (by rw [hcs]; exact size39)) ?_
  refine stepC (some 13) (f := 19) (args := #[.pointer (some ⟨E, 81, none⟩), .agg cs]) (R := fun v w' => v = .slice sa S.length sc ∧ Below w0.heap.size w0 w') rfl rfl rfl (by go_simp) ?_ ?_
  · refine (after19 E sa S.length sc cs w0.drew ?_ ?_ hcs h33).mono ?_
    · exact (HE.out.later hb0).lt
    · exact (HE.out.later hb0).s
    · rintro e w' ⟨rfl, hb⟩
      exact ⟨_, rfl, rfl, (Below.refl _ _).drew.trans hb⟩
  · rintro v w1 ⟨rfl, hb1⟩
    refine ⟨hb1, ?_⟩
    refine stepR (some 5) (.slice sa S.length sc) rfl rfl rfl (fun W hW => by go_simp) ?_
    refine chain_nil ?_
    have hl1 : w0.heap.size ≤ w1.heap.size := hb1.size
    have q36 : w1.cell? ⟨w.heap.size, 36, none⟩ = some (.slice ba Bs.length bc) := (Q0.out.later hb1).cell 36 (by simpa using h36)
    go_wp2_with fail
    go_loopw [6, 8, 17] (fun x _ i wr => ∃ k : Nat, k ≤ Bs.length ∧ i = .int .i64 k ∧ Below w1.heap.size w1 wr ∧ OwnI wr w1.heap.size x ((Bs.map Sig.v).take k)) (fun _ _ i _ => Bs.length - (intOf i).toNat)
    case atStart => exact ⟨0, Nat.zero_le _, rfl, Below.refl _ _, OwnI.nil _ _⟩
    case round =>
      obtain ⟨k, hk, rfl, hb, hown⟩ := hrel
      have hb01 : Below w0.heap.size w0 wr := hb1.trans (hb.mono hl1)
      have hbw : Below w.heap.size w wr := below_trans hb0 hb01
      have hlr : w1.heap.size ≤ wr.heap.size := hb.size
      by_cases hkn : k < Bs.length
      · obtain ⟨b, o, g, ea, hbl, hgl, k1, k2, k3⟩ := HAB.out.later hbw k hkn
        subst ea
        have hst : (Bs.map Sig.v).take (k + 1) = (Bs.map Sig.v).take k ++ [(sigAt Bs k).v] := by
          rw [List.take_add_one]
          simp [sigAt, List.getD, hkn]
        have hln : ((Bs.map Sig.v).take k).length ≤ 1024 := by simp; omega
        generalize sigAt Bs k = y at k1 k3 hst
        have HST := Hid.mk hst
        clear hst q36
        go_wp2_with (at_builtin; refine app27N (wr.heap.size + 1) (by simp) rfl _ _ rfl w1.heap.size _ _ rfl (hown.later ((Below.refl _ _).alloc (Nat.le_refl _) _)) y.v rfl (by omega) (by omega) ?_; intro x' w9 hown9 hb9)
        go_roundw
        case rel => exact ⟨k + 1, by omega, by go_num, (hb.alloc hlr _).trans hb9, by rw [HST.out]; exact hown9⟩
        case measure => simp [intOf]; omega
      · obtain rfl : k = Bs.length := by omega
        rw [List.take_of_length_le (by simp)] at hown
        go_wp2_with fail
        have HO := Hid.mk hown
        have hwr0 : Below (w.heap.size + 1) w0 wr := hb01.mono (by omega)
        have fact : ∀ W, Below (w.heap.size + 1) w0 W → W.cell? ⟨E, 94, none⟩ = some (.int .u64 h) ∧ W.cell? ⟨w.heap.size, 34, none⟩ = some (.slice ma M.length mc) := fun W hW => by
          refine ⟨?_, ?_⟩
          · rw [hW.cell (p := ⟨E, 94, none⟩) (Nat.lt_succ_of_lt HE.out.lt)]
            exact (HE.out.later hb0).h
          · rw [hW.cell (p := ⟨w.heap.size, 34, none⟩) (Nat.lt_succ_self _)]
            exact Q0.out.cell 34 (by simpa using h34)
        refine wp_region_can (fun W => Below (w.heap.size + 1) w0 W) [(0, true), (2, true), (3, true), (4, true), (5, true), (6, true), (7, true), (8, true), (9, true), (1, false), (10, false), (11, false)] (by kernel_rfl) (by kernel_rfl) (by kernel_rfl) rfl hwr0.drew ?_
        refine stepR (some 27) (.pointer (some ⟨E, 0, none⟩)) rfl rfl rfl (fun W hW => by go_simp) ?_
        refine stepR (some 29) (.pointer (some ⟨E, 0, none⟩)) rfl rfl rfl (fun W hW => by go_simp) ?_
        refine stepR (some 30) (.pointer (some ⟨E, 0, none⟩)) rfl rfl rfl (fun W hW => by go_simp) ?_
        refine stepR (some 31) (.pointer (some ⟨E, 94, none⟩)) rfl rfl rfl (fun W hW => by go_simp) ?_
        go_simp
        refine stepR (some 32) (.int .u64 h) rfl rfl rfl (fun W hW => by have c := (fact W hW).1; clear fact; go_simp) ?_
        refine stepR (some 33) (.pointer (some ⟨w.heap.size, 34, none⟩)) rfl rfl rfl (fun W hW => by go_simp) ?_
        refine stepR (some 34) (.slice ma M.length mc) rfl rfl rfl (fun W hW => by have c := (fact W hW).2; clear fact; go_simp) ?_
        refine stepR (some 35) (u6) rfl rfl rfl (fun W hW => by clear fact; go_simp) ?_
        refine stepR (some 36) (.slice sa S.length sc) rfl rfl rfl (fun W hW => by clear fact; go_simp) ?_
        have hEr := HE.out.later hbw
        go_simp
        refine stepC (some 28) (f := 20) (args := #[.pointer (some ⟨E, 0, none⟩)]) (R := fun v w' => v = .agg #[.slice sa S.length sc, .slice pa Pa.length pc, .slice la La.length lc] ∧ Below wr.heap.size wr w') rfl rfl rfl (by clear fact; go_simp) ((turns20 E sa pa la S.length Pa.length La.length sc pc lc wr.drew hEr.lt hEr.s hEr.p hEr.l).mono (by rintro e w' ⟨rfl, hb⟩; exact ⟨_, rfl, rfl, (Below.refl _ _).drew.trans hb⟩)) ?_
        rintro v w4 ⟨rfl, hb4⟩
        have hb04 : Below (w.heap.size + 1) w0 w4 := hwr0.trans (hb4.mono (by omega))
        have hbw4 := below_trans hbw hb4
        refine ⟨hb04, ?_⟩
        have hc21 : Calls Ybaf.prog 21 #[.agg #[.slice sa S.length sc, .slice pa Pa.length pc, .slice la La.length lc], .int .u64 h, .slice ma M.length mc, u6, .slice sa S.length sc] w4 fun e w' => ∃ v, e = .returned v ∧ ∃ a1 n1 c1 a2 n2 c2, v = .agg #[.slice sa S.length sc, .slice a1 n1 c1, .slice a2 n2 c2] ∧ OwnI w' w4.heap.size (.slice a1 n1 c1) (passF Pa M (Bs.map Sig.v) S) ∧ OwnL w' w4.heap.size (.slice a2 n2 c2) (lapsF S Pa M S La h) ∧ Below w4.heap.size w4 w' := by
          refine (following21 (.slice sa S.length sc) (.slice pa Pa.length pc) (.slice la La.length lc) (.slice ma M.length mc) u6 (.slice sa S.length sc) S Pa M (Bs.map Sig.v) S La h w4 (HT.out.later hbw4) HF.out (HMi.out.later hbw4) (HO.out.ints.later hb4) (HT.out.s.later hbw4) hM (by rw [bk_len]; omega) ⟨HF.out.s0, HF.out.s1⟩ HS.out HG.out BS.out hh).mono ?_
          rintro e w' ⟨r1, r2, rfl, h1, h2, h3⟩
          obtain ⟨a1, n1, c1, e1⟩ := h1.ints.shape
          obtain ⟨a2, n2, c2, e2⟩ := h2.laps.shape
          subst e1
          subst e2
          exact ⟨_, rfl, a1, n1, c1, a2, n2, c2, rfl, h1, h2, h3⟩
        have HC21 := Hid.mk hc21
        clear hc21 fact
        refine stepC (some 37) (f := 21) (args := #[.agg #[.slice sa S.length sc, .slice pa Pa.length pc, .slice la La.length lc], .int .u64 h, .slice ma M.length mc, u6, .slice sa S.length sc]) (R := fun v w' => ∃ a1 n1 c1 a2 n2 c2, v = .agg #[.slice sa S.length sc, .slice a1 n1 c1, .slice a2 n2 c2] ∧ OwnI w' w4.heap.size (.slice a1 n1 c1) (passF Pa M (Bs.map Sig.v) S) ∧ OwnL w' w4.heap.size (.slice a2 n2 c2) (lapsF S Pa M S La h) ∧ Below w4.heap.size w4 w') rfl rfl rfl ?he HC21.out ?_
        case he => go_simp
        rintro v w5 ⟨r1a, n1, r1c, r2a, n2, r2c, rfl, hr1, hr2, hb5⟩
        have hb05 : Below (w.heap.size + 1) w0 w5 := hb04.trans (hb5.mono (by have := hb4.size; omega))
        refine ⟨hb05, ?_⟩
        have hbw5 := below_trans hbw4 hb5
        have HR1 := Hid.mk hr1
        have HR2 := Hid.mk hr2
        clear hr1 hr2
        have q := (Q1.out.later hb1).below (hb.trans ((hb4.trans (hb5.mono hb4.size)).mono hlr)) (by omega)
        have c0 := q.cell 0 rfl
        have c1 := q.cell 1 rfl
        have c2 := q.cell 2 rfl
        have f0 := q.free 0
        have f1 := q.free 1
        have f2 := q.free 2
        have HQ := Hid.mk q
        clear q
        go_simp
        refine stepO none (((w5.setCell ⟨w.heap.size + 1, 0, none⟩ (.slice sa S.length sc)).setCell ⟨w.heap.size + 1, 1, none⟩ (.slice r1a n1 r1c)).setCell ⟨w.heap.size + 1, 2, none⟩ (.slice r2a n2 r2c)) (n := .skip) (u := undef) rfl rfl rfl ?he2 (.inr ⟨rfl, rfl⟩) ?_ ?_
        case he2 => go_simp
        · exact ((hb05.setCell (p := ⟨w.heap.size + 1, 0, none⟩) (Nat.le_refl _) _).setCell (p := ⟨w.heap.size + 1, 1, none⟩) (Nat.le_refl _) _).setCell (p := ⟨w.heap.size + 1, 2, none⟩) (Nat.le_refl _) _
        refine chain_nil ?_
        clear c0 c1 c2 f0 f1 f2
        go_wp2
        refine bodyPost_ret (results_cell_row rfl _ _ (w.heap.size + 1) 83 #[.slice sa S.length sc, .slice r1a n1 r1c, .slice r2a n2 r2c] (0, 0) _ rfl (((HQ.out.set 0 _).set 1 _).set 2 _) Ybaf.underlying83 rfl size83) rfl ?_
        have hlt4 : w.heap.size + 1 < w4.heap.size := by have := hb4.size; omega
        refine ⟨_, _, rfl, ?_, ?_, ?_⟩
        · exact own_base (B := w4.heap.size) (ownsRow_setCell_below (a := ⟨w.heap.size + 1, 2, none⟩) (ownsRow_setCell_below (a := ⟨w.heap.size + 1, 1, none⟩) (ownsRow_setCell_below (a := ⟨w.heap.size + 1, 0, none⟩) HR1.out hlt4 _) hlt4 _) hlt4 _) (by omega)
        · exact own_base (B := w4.heap.size) (ownsRow_setCell_below (a := ⟨w.heap.size + 1, 2, none⟩) (ownsRow_setCell_below (a := ⟨w.heap.size + 1, 1, none⟩) (ownsRow_setCell_below (a := ⟨w.heap.size + 1, 0, none⟩) HR2.out hlt4 _) hlt4 _) hlt4 _) (by omega)
        · exact ((hbw5.setCell (p := ⟨w.heap.size + 1, 0, none⟩) (Nat.le_succ _) _).setCell (p := ⟨w.heap.size + 1, 1, none⟩) (Nat.le_succ _) _).setCell (p := ⟨w.heap.size + 1, 2, none⟩) (Nat.le_succ _) _
end Go.Proofs.YbulkcvteFmt

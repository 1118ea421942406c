/- Engine.recorded. -/
import Derived.Test.YbulkcvteFmtKeys
namespace Go.Proofs.YbulkcvteFmt
open Go.RowKit
set_option linter.unusedVariables false

/-- A load of an array that lies inside a block. -/
theorem exec_load_part {P : Program} {o : Oper} {a : Act} {w : World} (ty : TypeId) (x : Operand) (ho : o.op = .load ty x) (g off : Nat) (hx : a.eval x = .pointer (some ⟨g, off, none⟩)) (cs : List Value) (hc : ∀ i v, cs[i]? = some v → w.cell? ⟨g, off + i, none⟩ = some v)
    (ha : (isAgg ty).run P w = .ok true w) (hs : (Go.sizeOf ty).run P w = .ok cs.length w) : (execOp a.eval o).run P w = .ok (.value (.agg cs.toArray)) w := by
  have hl := run_loadCells_list (P := P) w ⟨g, off, none⟩ cs (fun j v hj => by
    have e : (⟨g, off, none⟩ : Addr).add j = ⟨g, off + j, none⟩ := by unfold Addr.add; split <;> simp_all
    rw [e]; exact hc j v hj)
  unfold execOp
  simp only [ho, hx, Instr.loadAt, Instr.sureAddr, Sem.run_bind, Sem.run_pure, Result.andThen_ok]
  simp [loadVar, Sem.run_bind, ha, hs, hl]

/-- The engine, whole, as recorded reads it. -/
structure EngR (w : World) (E kb Mb G Wt : Nat) (s p l : Value) (h : Nat) (ch pr : List Value) : Prop where
  e : Eng w E s p l h
  keys : w.cell? ⟨E, 0, none⟩ = some (.slice (some ⟨kb, 0, none⟩) 16 16)
  ver : w.cell? ⟨E, 78, none⟩ = some (.func (.func 8) #[] #[.pointer (some ⟨Mb, 0, none⟩), .pointer (some ⟨G, 0, none⟩), .pointer (some ⟨Wt, 0, none⟩)])
  chain : ∀ i v, ch[i]? = some v → w.cell? ⟨E, 6 + i, none⟩ = some v
  par : ∀ i v, pr[i]? = some v → w.cell? ⟨E, 102 + i, none⟩ = some v
theorem EngR.later {w w' : World} {E kb Mb G Wt : Nat} {s p l : Value} {h : Nat} {ch pr : List Value} (r : EngR w E kb Mb G Wt s p l h ch pr) (hb : Below w.heap.size w w') : EngR w' E kb Mb G Wt s p l h ch pr :=
  ⟨r.e.later hb, by rw [hb.cell r.e.lt]; exact r.keys, by rw [hb.cell r.e.lt]; exact r.ver, fun i v hv => by rw [hb.cell (p := ⟨E, 6 + i, none⟩) r.e.lt]; exact r.chain i v hv, fun i v hv => by rw [hb.cell (p := ⟨E, 102 + i, none⟩) r.e.lt]; exact r.par i v hv⟩


theorem ne_of_cell {w : World} {G b j : Nat} {v : Value} (hG : Blk w G 26 [.slice none 0 0]) (hc : w.cell? ⟨b, j, none⟩ = some v) (hv : v ≠ .slice none 0 0) : b ≠ G := by
  rintro rfl
  unfold Blk at hG
  simp only [World.cell?, hG] at hc
  cases j with
  | zero => simp at hc; exact hv hc.symm
  | succ j => simp at hc
theorem Ints.keptG {w w' : World} {G : Nat} {s : Value} {L : List Int} (h : Ints w s L) (hG : Blk w G 26 [.slice none 0 0]) (hk : KeptG w.heap.size G w w') : Ints w' s L := by
  obtain ⟨a, c, e, h1, h2, h3⟩ := h
  refine ⟨a, c, e, h1, h2, fun i hi => ?_⟩
  obtain ⟨b, o, ea, hlt, hc⟩ := h3 i hi
  exact ⟨b, o, ea, Nat.lt_of_lt_of_le hlt hk.size, by rw [hk.cell (p := ⟨b, o + i, none⟩) hlt (ne_of_cell hG hc (by simp [cellI]))]; exact hc⟩
theorem Laps.keptG {w w' : World} {G : Nat} {s : Value} {L : List Lap} (h : Laps w s L) (hG : Blk w G 26 [.slice none 0 0]) (hk : KeptG w.heap.size G w w') : Laps w' s L := by
  obtain ⟨a, c, e, h1, h2, h3⟩ := h
  refine ⟨a, c, e, h1, h2, fun i hi => ?_⟩
  obtain ⟨b, o, ea, hlt, k1, k2, k3⟩ := h3 i hi
  have hne := ne_of_cell hG k1 (by simp)
  exact ⟨b, o, ea, Nat.lt_of_lt_of_le hlt hk.size, by rw [hk.cell (p := ⟨b, _, none⟩) hlt hne]; exact k1, by rw [hk.cell (p := ⟨b, _, none⟩) hlt hne]; exact k2, by rw [hk.cell (p := ⟨b, _, none⟩) hlt hne]; exact k3⟩
theorem Tn.keptG {w w' : World} {G : Nat} {s p l : Value} {S Pa : List Int} {La : List Lap} (h : Tn w s p l S Pa La) (hG : Blk w G 26 [.slice none 0 0]) (hk : KeptG w.heap.size G w w') : Tn w' s p l S Pa La := ⟨h.s.keptG hG hk, h.p.keptG hG hk, h.l.keptG hG hk⟩
theorem AtS.keptG {w w' : World} {G : Nat} {a : Option Addr} {L : List Sig} (h : AtS w a L) (hG : Blk w G 26 [.slice none 0 0]) (hk : KeptG w.heap.size G w w') : AtS w' a L := fun i hi => by
  obtain ⟨b, o, g, ea, hlt, hg, k1, k2, k3⟩ := h i hi
  have hne := ne_of_cell hG k1 (by simp)
  have hne2 := ne_of_cell hG k3 (by simp)
  exact ⟨b, o, g, ea, Nat.lt_of_lt_of_le hlt hk.size, Nat.lt_of_lt_of_le hg hk.size, by rw [hk.cell (p := ⟨b, _, none⟩) hlt hne]; exact k1, by rw [hk.cell (p := ⟨b, _, none⟩) hlt hne]; exact k2, by rw [hk.cell (p := ⟨g, _, none⟩) hg hne2]; exact k3⟩
theorem Bys.keptG {w w' : World} {G : Nat} {s : Value} {xs : List Int} (h : Bys w s xs) (h0 : 0 < xs.length) (hG : Blk w G 26 [.slice none 0 0]) (hk : KeptG w.heap.size G w w') : Bys w' s xs := by
  obtain ⟨b, o, c, e, h1, h2⟩ := h
  have hne := ne_of_cell hG (h2 0 h0) (by simp)
  exact ⟨b, o, c, e, Nat.lt_of_lt_of_le h1 hk.size, fun i hi => by rw [hk.cell (p := ⟨b, _, none⟩) h1 hne]; exact h2 i hi⟩
theorem Keys.keptG {w w' : World} {G g n : Nat} (h : Keys w g n) (h0 : 0 < n) (hG : Blk w G 26 [.slice none 0 0]) (hk : KeptG w.heap.size G w w') : Keys w' g n := by
  obtain ⟨b0, _, c0, _⟩ := h.all 0 h0
  have hne := ne_of_cell hG c0 (by simp)
  refine ⟨Nat.lt_of_lt_of_le h.lt hk.size, fun i hi => ?_⟩
  obtain ⟨b, h1, h2, h3⟩ := h.all i hi
  have hne2 := ne_of_cell hG h3 (by simp)
  exact ⟨b, Nat.lt_of_lt_of_le h1 hk.size, by rw [hk.cell (p := ⟨g, _, none⟩) h.lt hne]; exact h2, by rw [hk.cell (p := ⟨b, _, none⟩) h1 hne2]; exact h3⟩
theorem EngR.keptG {w w' : World} {E kb Mb G Wt : Nat} {s p l : Value} {h : Nat} {ch pr : List Value} (r : EngR w E kb Mb G Wt s p l h ch pr) (hG : Blk w G 26 [.slice none 0 0]) (hk : KeptG w.heap.size G w w') : EngR w' E kb Mb G Wt s p l h ch pr := by
  have hne := ne_of_cell hG r.e.h (by simp)
  have hc : ∀ i, w'.cell? ⟨E, i, none⟩ = w.cell? ⟨E, i, none⟩ := fun i => hk.cell (p := ⟨E, i, none⟩) r.e.lt hne
  exact ⟨⟨Nat.lt_of_lt_of_le r.e.lt hk.size, by rw [hc]; exact r.e.s, by rw [hc]; exact r.e.p, by rw [hc]; exact r.e.l, by rw [hc]; exact r.e.h⟩, by rw [hc]; exact r.keys, by rw [hc]; exact r.ver, fun i v hv => by rw [hc]; exact r.chain i v hv, fun i v hv => by rw [hc]; exact r.par i v hv⟩
theorem passF_len (Pa M Bk Nx : List Int) : (passF Pa M Bk Nx).length ≤ Pa.length + M.length := by
  unfold passF
  rw [srt_len]
  have h1 := fold_len (fun m => hasB Pa m) Nx M (pasA Bk Nx Pa)
  have h2 := fold_len (fun m => hasB Bk m) Nx Pa []
  unfold pasB pasA at *
  simp at h2
  omega
theorem KeptG.mono {B B' G : Nat} {w w' : World} (h : KeptG B G w w') (hB : B' ≤ B) : KeptG B' G w w' := ⟨h.os, h.tape, h.output, h.size, fun k hk hne => h.block k (Nat.lt_of_lt_of_le hk hB) hne⟩
theorem KeptG.blk {w w' : World} {B G k t : Nat} {cs : List Value} (hk : KeptG B G w w') (h : Blk w k t cs) (hlt : k < B) (hne : k ≠ G) : Blk w' k t cs := by unfold Blk at *; rw [hk.block k hlt hne]; exact h

/-- Does commit k pass ahead of its signature? -/
def preOk (Pa : List Int) (La : List Lap) (h : Nat) (Bs : List Sig) (k : Nat) : Bool := (hasB Pa (sigAt Bs k).v && decide ((lapseOf La (sigAt Bs k).v).b ≤ (h : Int))) && !(decide (0 < k) && decide ((sigAt Bs k).v ≤ (sigAt Bs (k - 1)).v))
def sigOk (Bs : List Sig) (k : Nat) : Bool := bits .and .u8 (sigAt Bs k).x 1 == 0

/-- The block that is looked at: the cells that are read. -/
structure BlkR (cs : Array Value) (mi bp bs bl : Value) (bv : Nat) : Prop where
  n : cs.size = 41
  c33 : cs[33]? = some (.slice none 0 0)
  c34 : cs[34]? = some mi
  c35 : cs[35]? = some bp
  c36 : cs[36]? = some bs
  c37 : cs[37]? = some (.int .u32 bv)
  c38 : cs[38]? = some bl

set_option maxRecDepth 100000 in
set_option maxHeartbeats 8000000 in
theorem recorded11 (E kb Mb G Wt : Nat) (s p l mi bp bs bl want : Value) (S Pa M BP X : List Int) (La BL : List Lap) (Bs : List Sig) (h bv hm : Nat) (ch pr : List Value) (cs : Array Value) (w : World) (he : EngR w E kb Mb G Wt s p l h ch pr) (hcs : BlkR cs mi bp bs bl bv) (ht : Tn w s p l S Pa La) (hf : Fit S Pa La) (hmi : Ints w mi M) (hM : M.length ≤ 16) (hh : h < 18446744073709551616) (hbv : bv < 4294967296) (hcl : ch.length = 32) (hpl : pr.length = 32)
    (hc1 : ∀ u ∈ ch, u.oneCell' = true) (hp1 : ∀ u ∈ pr, u.oneCell' = true) (htag : ∀ W, Below w.heap.size w W → W.cell? ⟨0, 13, none⟩ = some (.string tagB))
    (hhm : IntKind.u64.wrap ((h : Int) - 1) = (hm : Int)) (hhm2 : hm < 18446744073709551616) (hX : stmt ch hm bv pr = X.map (Value.int .u8)) (hXl : X.length = 91)
    (hbs : Sigs w bs Bs) (hBs : Bs.length ≤ 1024) (hBv : ∀ c ∈ Bs, 0 ≤ c.v ∧ c.v < 16 ∧ 0 ≤ c.x ∧ c.x < 256) (hkeys : Keys w kb 16) (hMb : Blk w Mb 4 [.bool true]) (hG : Blk w G 26 [.slice none 0 0]) (hWt : w.cell? ⟨Wt, 0, none⟩ = some want) (hWl : Wt < w.heap.size) (hwant : Bys w want X)
    (hbp : Ints w bp BP) (hbl : Laps w bl BL) (hBP : BP.length ≤ 1024) (hBL : BL.length ≤ 1024) (hsm : Small La) (hgd : Good La) (bS : ∀ x ∈ S, -1048576 ≤ x ∧ x ≤ 1048576) :
    Calls Ybaf.prog 11 #[.pointer (some ⟨E, 0, none⟩), .agg cs] w fun e w' => ∃ n v', n ≤ Bs.length ∧ (∀ j, j < n → preOk Pa La h Bs j = true ∧ sigOk Bs j = true) ∧ Blk w' G 26 [v'] ∧ KeptG w.heap.size G w w' ∧
      ((M ≠ missedOf S Pa h (propIn S Pa h M) ∧ n = 0 ∧ e = .returned (.tuple #[.int .u32 0, .bool false]) ∧ OwnI w' w.heap.size v' []) ∨
       (M = missedOf S Pa h (propIn S Pa h M) ∧ n < Bs.length ∧ preOk Pa La h Bs n = false ∧ e = .returned (.tuple #[.int .u32 0, .bool false]) ∧ OwnI w' w.heap.size v' ((Bs.take n).map Sig.v)) ∨
       (M = missedOf S Pa h (propIn S Pa h M) ∧ n < Bs.length ∧ preOk Pa La h Bs n = true ∧ sigOk Bs n = false ∧ e = .returned (.tuple #[.int .u32 0, .bool false]) ∧ OwnI w' w.heap.size v' ((Bs.take (n + 1)).map Sig.v)) ∨
       (M = missedOf S Pa h (propIn S Pa h M) ∧ n = Bs.length ∧ (∃ r : Bool, e = .returned (.tuple #[.int .u32 (propIn S Pa h M), .bool r]) ∧ (r = true ↔ BP = passF Pa M (Bs.map Sig.v) S ∧ BL = lapsF S Pa M S La h)) ∧ OwnI w' w.heap.size v' (Bs.map Sig.v))) := by
  have HE := Hid.mk he
  have HCS := Hid.mk hcs
  have HT := Hid.mk ht
  have HF := Hid.mk hf
  have HMi := Hid.mk hmi
  have HTAG := Hid.mk htag
  have HHM := Hid.mk hhm
  have HX := Hid.mk hX
  have HBs := Hid.mk hbs
  have HBV := Hid.mk hBv
  have HKeys := Hid.mk hkeys
  have HMb := Hid.mk hMb
  have HG0 := Hid.mk hG
  have HWt := Hid.mk hWt
  have HWant := Hid.mk hwant
  have HBp := Hid.mk hbp
  have HBl := Hid.mk hbl
  have HSm := Hid.mk hsm
  have HGd := Hid.mk hgd
  have HbS := Hid.mk bS
  clear hhm hX hbs hBv hkeys hMb hG hWt hwant hbp hbl hsm hgd bS
  obtain ⟨sa, sc, rfl, _, _, _⟩ := ht.s
  obtain ⟨pa, pc, rfl, _, _, _⟩ := ht.p
  obtain ⟨la, lc, rfl, _, _, _⟩ := ht.l
  obtain ⟨ma, mc, rfl, _, _, _⟩ := hmi
  have hb0 : Below w.heap.size w (w.alloc (.cells cs 39)) := (Below.refl _ _).alloc (Nat.le_refl _) _
  have hE0 := he.e.later hb0
  have HB0 := Hid.mk hb0
  clear he hcs ht hf htag hb0
  go_enter Ybaf.func11, Ybaf.ntmps11
  go_wp2_with (go_at_call 20; refine (turns20 E sa pa la S.length Pa.length La.length sc pc lc _ hE0.lt hE0.s hE0.p hE0.l).mono ?_; rintro e w1 ⟨rfl, hb1⟩)
  obtain ⟨w2, hw2⟩ : ∃ w2, w2 = w1.alloc (.cells #[.slice sa S.length sc, .slice pa Pa.length pc, .slice la La.length lc] 83) := ⟨_, rfl⟩
  have hbw2 : Below w.heap.size w w2 := by rw [hw2]; exact below_alloc (below_trans HB0.out hb1) _
  have Q0 : Hid (Blk w2 w.heap.size 39 cs.toList) := by rw [hw2]; exact ((Blk.new w 39 cs).later hb1).alloc _
  have Q1 : Hid (Blk w2 w1.heap.size 83 [.slice sa S.length sc, .slice pa Pa.length pc, .slice la La.length lc]) := by rw [hw2]; exact Blk.new w1 83 #[.slice sa S.length sc, .slice pa Pa.length pc, .slice la La.length lc]
  have hwl : w.heap.size < w1.heap.size := by have := hb1.size; simp at this; omega
  rw [← hw2]
  clear hE0 hb1 hw2
  generalize w1.heap.size = T at *
  have fact : Hid (∀ W, Below w2.heap.size w2 W → W.cell? ⟨T, 0, none⟩ = some (.slice sa S.length sc) ∧ W.cell? ⟨T, 1, none⟩ = some (.slice pa Pa.length pc) ∧ W.cell? ⟨T, 2, none⟩ = some (.slice la La.length lc) ∧ W.cell? ⟨E, 94, none⟩ = some (.int .u64 h) ∧ W.cell? ⟨w.heap.size, 34, none⟩ = some (.slice ma M.length mc)) := fun W hW => by
    have hT := Q1.out.later hW
    refine ⟨hT.cell 0 rfl, hT.cell 1 rfl, hT.cell 2 rfl, ?_, ?_⟩
    · exact ((HE.out.later hbw2).later hW).e.h
    · exact (Q0.out.later hW).cell 34 (by simpa using HCS.out.c34)
  refine wp_region_can (fun W => Below w2.heap.size w2 W) [(0, true), (1, true), (2, true), (3, true), (4, true), (5, true), (6, true), (7, false), (8, true)] (by kernel_rfl) (by kernel_rfl) (by kernel_rfl) rfl (Below.refl _ _).drew ?_
  refine stepR (some 14) (.agg #[.slice sa S.length sc, .slice pa Pa.length pc, .slice la La.length lc]) rfl rfl rfl (fun W hW => by obtain ⟨f0, f1, f2, _, _⟩ := fact.out W hW; go_simp) ?_
  refine stepR (some 15) (.pointer (some ⟨E, 0, none⟩)) rfl rfl rfl (fun W hW => by go_simp) ?_
  refine stepR (some 16) (.pointer (some ⟨E, 0, none⟩)) rfl rfl rfl (fun W hW => by go_simp) ?_
  refine stepR (some 17) (.pointer (some ⟨E, 94, none⟩)) rfl rfl rfl (fun W hW => by go_simp) ?_
  go_simp
  refine stepR (some 18) (.int .u64 h) rfl rfl rfl (fun W hW => by obtain ⟨_, _, _, f3, _⟩ := fact.out W hW; go_simp) ?_
  refine stepR (some 19) (.pointer (some ⟨w.heap.size, 34, none⟩)) rfl rfl rfl (fun W hW => by go_simp) ?_
  refine stepR (some 20) (.slice ma M.length mc) rfl rfl rfl (fun W hW => by obtain ⟨_, _, _, _, f4⟩ := fact.out W hW; go_simp) ?_
  go_simp
  have hc22 : Calls Ybaf.prog 22 #[.agg #[.slice sa S.length sc, .slice pa Pa.length pc, .slice la La.length lc], .int .u64 h, .slice ma M.length mc] w2.drew fun e w' => ∃ v, e = .returned v ∧ v = .int .u32 (propIn S Pa h M) ∧ Below w2.heap.size w2 w' :=
    (proposedIn22 _ _ _ _ S Pa M La h w2.drew (HT.out.later hbw2.drew) HF.out (HMi.out.later hbw2.drew) (by omega) hh).mono (by rintro e w' ⟨rfl, hb⟩; exact ⟨_, rfl, rfl, (Below.refl _ _).drew.trans hb⟩)
  refine stepC (some 21) (f := 22) (args := #[.agg #[.slice sa S.length sc, .slice pa Pa.length pc, .slice la La.length lc], .int .u64 h, .slice ma M.length mc]) (R := fun v w' => v = .int .u32 (propIn S Pa h M) ∧ Below w2.heap.size w2 w') rfl rfl rfl (by clear hc22; go_simp) hc22 ?_
  rintro v w3 ⟨rfl, hb3⟩
  refine ⟨hb3, ?_⟩
  refine stepR (some 7) (.int .u32 (propIn S Pa h M)) rfl rfl rfl (fun W hW => by clear hc22; go_simp) ?_
  refine chain_nil ?_
  clear hc22
  have hview : propIn S Pa h M ≤ 16 := Nat.le_trans (propGo_le _ _ _ _ _ _) (by have := HF.out.v1; omega)
  have hl23 := hb3.size
  obtain ⟨view, hvw⟩ : ∃ view, propIn S Pa h M = view := ⟨_, rfl⟩
  have HV := Hid.mk hvw
  rw [hvw] at hview ⊢
  clear hvw
  go_wp2_with fail
  refine wp_region_can (fun W => Below w2.heap.size w2 W) [(0, true), (1, true), (2, true), (3, true), (4, true), (5, true), (6, true), (7, true), (8, false), (9, false), (10, true)] (by kernel_rfl) (by kernel_rfl) (by kernel_rfl) rfl hb3.drew ?_
  refine stepR (some 22) (.pointer (some ⟨w.heap.size, 34, none⟩)) rfl rfl rfl (fun W hW => by go_simp) ?_
  refine stepR (some 23) (.slice ma M.length mc) rfl rfl rfl (fun W hW => by obtain ⟨_, _, _, _, f4⟩ := fact.out W hW; go_simp) ?_
  refine stepR (some 24) (.agg #[.slice sa S.length sc, .slice pa Pa.length pc, .slice la La.length lc]) rfl rfl rfl (fun W hW => by obtain ⟨f0, f1, f2, _, _⟩ := fact.out W hW; go_simp) ?_
  refine stepR (some 25) (.pointer (some ⟨E, 0, none⟩)) rfl rfl rfl (fun W hW => by go_simp) ?_
  go_simp
  refine stepR (some 26) (.pointer (some ⟨E, 0, none⟩)) rfl rfl rfl (fun W hW => by go_simp) ?_
  refine stepR (some 27) (.pointer (some ⟨E, 94, none⟩)) rfl rfl rfl (fun W hW => by go_simp) ?_
  refine stepR (some 28) (.int .u64 h) rfl rfl rfl (fun W hW => by obtain ⟨_, _, _, f3, _⟩ := fact.out W hW; go_simp) ?_
  refine stepR (some 29) (.int .u32 view) rfl rfl rfl (fun W hW => by go_simp) ?_
  go_simp
  have hbw3 := below_trans hbw2 hb3
  have hc23 : Calls Ybaf.prog 23 #[.agg #[.slice sa S.length sc, .slice pa Pa.length pc, .slice la La.length lc], .int .u64 h, .int .u32 view] w3.drew fun e w' => ∃ v, e = .returned v ∧ OwnI w' w3.heap.size v (missedOf S Pa h view) ∧ Below w3.heap.size w3 w' :=
    (missed23 _ _ _ S Pa La h view w3.drew (HT.out.later hbw3.drew) HF.out hh (by omega)).mono (by rintro e w' ⟨r, rfl, ho, hb⟩; exact ⟨_, rfl, ho, (Below.refl _ _).drew.trans hb⟩)
  refine stepC (some 30) (f := 23) (args := #[.agg #[.slice sa S.length sc, .slice pa Pa.length pc, .slice la La.length lc], .int .u64 h, .int .u32 view]) (R := fun v w' => OwnI w' w3.heap.size v (missedOf S Pa h view) ∧ Below w3.heap.size w3 w') rfl rfl rfl (by clear hc23; go_simp) hc23 ?_
  rintro v w4 ⟨ho4, hb4⟩
  refine ⟨hb3.trans (hb4.mono hl23), ?_⟩
  clear hc23
  have hbw4 := below_trans hbw3 hb4
  have hc13 : Calls Ybaf.prog 13 #[.slice ma M.length mc, v] w4 fun e w' => ∃ u, e = .returned u ∧ u = .bool (decide (M = missedOf S Pa h view)) ∧ Below w4.heap.size w4 w' :=
    (equal13 _ _ M (missedOf S Pa h view) w4 (HMi.out.later hbw4) ho4.ints (by omega) (by have := missPre_len S Pa h (min view (liveOf S Pa).length); unfold missedOf; rw [srt_len]; omega)).mono (by rintro e w' ⟨rfl, hb⟩; exact ⟨_, rfl, rfl, hb⟩)
  refine stepC (some 31) (f := 13) (args := #[.slice ma M.length mc, v]) (R := fun u w' => u = .bool (decide (M = missedOf S Pa h view)) ∧ Below w4.heap.size w4 w') rfl rfl rfl (by clear hc13; go_simp) hc13 ?_
  rintro u w5 ⟨rfl, hb5⟩
  clear hc13
  have hb35 : Below w3.heap.size w3 w5 := below_trans hb4 hb5
  have hb25 : Below w2.heap.size w2 w5 := hb3.trans (hb35.mono hl23)
  refine ⟨hb25, ?_⟩
  refine stepR (some 32) (.bool (!decide (M = missedOf S Pa h view))) rfl rfl rfl (fun W hW => by go_simp) ?_
  refine chain_nil ?_
  have hbw5 := below_trans hbw2 hb25
  clear ho4 hb4 hb5 hbw4
  by_cases heq : M = missedOf S Pa h view
  · have hd : decide (M = missedOf S Pa h view) = true := by simpa using heq
    rw [hd]
    have HEQ := Hid.mk heq
    clear hd heq
    go_wp2_with fail
    have fact5 : Hid (∀ W, Below w5.heap.size w5 W → (∀ i v, ch[i]? = some v → W.cell? ⟨E, 6 + i, none⟩ = some v) ∧ (∀ i v, pr[i]? = some v → W.cell? ⟨E, 102 + i, none⟩ = some v) ∧ W.cell? ⟨E, 94, none⟩ = some (.int .u64 h) ∧ W.cell? ⟨w.heap.size, 37, none⟩ = some (.int .u32 bv)) := fun W hW => by
      have hEr := (HE.out.later hbw5).later hW
      exact ⟨hEr.chain, hEr.par, hEr.e.h, ((Q0.out.later hb25).later hW).cell 37 (by simpa using HCS.out.c37)⟩
    have hhm := HHM.out
    have h35 : ∀ W, (Go.sizeOf 35).run Ybaf.prog W = .ok 32 W := Ybaf.sizeOf35
    refine wp_region_can (fun W => Below w5.heap.size w5 W) [(0, true), (1, true), (2, true), (3, true), (4, true), (5, true), (6, true), (7, true), (8, true), (9, true), (10, true), (11, true), (12, true), (13, true), (14, true), (15, true), (16, false), (17, true)] (by kernel_rfl) (by kernel_rfl) (by kernel_rfl) rfl (Below.refl _ _).drew ?_
    refine stepR (some 33) (.pointer (some ⟨E, 0, none⟩)) rfl rfl rfl (fun W hW => by go_simp) ?_
    refine stepR (some 34) (.pointer (some ⟨E, 0, none⟩)) rfl rfl rfl (fun W hW => by go_simp) ?_
    refine stepR (some 35) (.pointer (some ⟨E, 0, none⟩)) rfl rfl rfl (fun W hW => by go_simp) ?_
    refine stepR (some 36) (.pointer (some ⟨E, 6, none⟩)) rfl rfl rfl (fun W hW => by go_simp) ?_
    go_simp
    refine stepR (some 37) (.agg ch.toArray) rfl rfl rfl (fun W hW => exec_load_part 35 (.tmp 36) rfl E 6 rfl ch (fact5.out W hW).1 (Ybaf.isAgg35 W) (by rw [hcl]; exact h35 W)) ?_
    refine stepR (some 38) (.pointer (some ⟨E, 0, none⟩)) rfl rfl rfl (fun W hW => by go_simp) ?_
    refine stepR (some 39) (.pointer (some ⟨E, 0, none⟩)) rfl rfl rfl (fun W hW => by go_simp) ?_
    refine stepR (some 40) (.pointer (some ⟨E, 94, none⟩)) rfl rfl rfl (fun W hW => by go_simp) ?_
    go_simp
    refine stepR (some 41) (.int .u64 h) rfl rfl rfl (fun W hW => by obtain ⟨_, _, f3, _⟩ := fact5.out W hW; go_simp) ?_
    refine stepR (some 42) (.int .u64 hm) rfl rfl rfl (fun W hW => by go_simp) ?_
    refine stepR (some 43) (.pointer (some ⟨w.heap.size, 37, none⟩)) rfl rfl rfl (fun W hW => by go_simp) ?_
    refine stepR (some 44) (.int .u32 bv) rfl rfl rfl (fun W hW => by obtain ⟨_, _, _, f4⟩ := fact5.out W hW; go_simp) ?_
    go_simp
    refine stepR (some 45) (.pointer (some ⟨E, 0, none⟩)) rfl rfl rfl (fun W hW => by go_simp) ?_
    refine stepR (some 46) (.pointer (some ⟨E, 0, none⟩)) rfl rfl rfl (fun W hW => by go_simp) ?_
    refine stepR (some 47) (.pointer (some ⟨E, 102, none⟩)) rfl rfl rfl (fun W hW => by go_simp) ?_
    refine stepR (some 48) (.agg pr.toArray) rfl rfl rfl (fun W hW => exec_load_part 35 (.tmp 47) rfl E 102 rfl pr (fact5.out W hW).2.1 (Ybaf.isAgg35 W) (by rw [hpl]; exact h35 W)) ?_
    go_simp
    have hc7 : Calls Ybaf.prog 7 #[.agg ch.toArray, .int .u64 hm, .int .u32 bv, .agg pr.toArray] w5.drew fun e w' => ∃ v, e = .returned v ∧ w'.ownsRow w5.heap.size 5 1 v 91 (stmt ch hm bv pr) ∧ Below w5.heap.size w5 w' := by
      refine (commit7 ch.toArray pr.toArray hm bv w5.drew (by simpa using hcl) (by simpa using hpl) (by simpa using hc1) (by simpa using hp1) hhm2 hbv (fun W hW => HTAG.out W (below_trans hbw5.drew hW))).mono ?_
      rintro e w' ⟨r, rfl, ho, hb⟩
      exact ⟨_, rfl, by simpa using ho, (Below.refl _ _).drew.trans hb⟩
    have HC7 := Hid.mk hc7
    clear hc7
    refine stepC (some 49) (f := 7) (args := #[.agg ch.toArray, .int .u64 hm, .int .u32 bv, .agg pr.toArray]) (R := fun v w' => w'.ownsRow w5.heap.size 5 1 v 91 (stmt ch hm bv pr) ∧ Below w5.heap.size w5 w') rfl rfl rfl (by go_simp) HC7.out ?_
    rintro sg w6 ⟨ho6, hb6⟩
    refine ⟨hb6, ?_⟩
    have HO6 := Hid.mk ho6
    clear ho6
    refine stepR (some 8) sg rfl rfl rfl (fun W hW => by go_simp) ?_
    refine chain_nil ?_
    have hbw6 := below_trans hbw5 hb6
    have hb26 : Below w2.heap.size w2 w6 := below_trans hb25 hb6
    obtain ⟨ba, bc, ebs, hatB⟩ := HBs.out
    subst ebs
    have q36 : w6.cell? ⟨w.heap.size, 36, none⟩ = some (.slice ba Bs.length bc) := (Q0.out.later hb26).cell 36 (by simpa using HCS.out.c36)
    have HAB := Hid.mk (hatB.later hbw6)
    have HG6 : Hid (Blk w6 G 26 [.slice none 0 0]) := HG0.out.later hbw6
    have HE6 := Hid.mk (HE.out.later hbw6)
    have HT6 := Hid.mk (HT.out.later hbw6)
    have HK6 := Hid.mk (HKeys.out.later hbw6)
    have HSG : Hid (Bys w6 sg X) := Bys.of_own (B := w5.heap.size) (by rw [hXl, ← HX.out]; exact HO6.out) (by omega)
    have HW6 := Hid.mk (HWant.out.later hbw6)
    have HT1 : Hid (Blk w6 T 83 [.slice sa S.length sc, .slice pa Pa.length pc, .slice la La.length lc]) := Q1.out.later hb26
    have HQ6 : Hid (Blk w6 w.heap.size 39 cs.toList) := Q0.out.later hb26
    have hTl := HT1.out.lt
    clear hatB
    go_wp2_with fail
    go_loopw [9, 10, 53] (fun _ _ i wr => ∃ (k : Nat) (v : Value), k ≤ Bs.length ∧ i = .int .i64 k ∧ KeptG w6.heap.size G w6 wr ∧ Hid (Blk wr G 26 [v]) ∧ Hid (OwnI wr w6.heap.size v ((Bs.take k).map Sig.v)) ∧ Hid (∀ j, j < k → preOk Pa La h Bs j = true ∧ sigOk Bs j = true)) (fun _ _ i _ => Bs.length - (intOf i).toNat)
    case atStart => exact ⟨0, .slice none 0 0, Nat.zero_le _, rfl, KeptG.of_below (Below.refl _ _), HG6, OwnI.nil _ _, fun j hj => absurd hj (Nat.not_lt_zero _)⟩
    case round =>
      obtain ⟨k, v, hk, rfl, hkg, HBG, HOG, HALL⟩ := hrel
      have hlr := hkg.size
      clear q36
      by_cases hkn : k < Bs.length
      · obtain ⟨bb, bo, g, ea, hbl, hgl, k1, k2, k3⟩ := HAB.out.keptG HG6.out hkg k hkn
        subst ea
        have hcv := HBV.out _ (show sigAt Bs k ∈ Bs by simp [sigAt, List.getD, hkn])
        have hpre : preOk Pa La h Bs k = ((hasB Pa (sigAt Bs k).v && decide ((lapseOf La (sigAt Bs k).v).b ≤ (h : Int))) && !(decide (0 < k) && decide ((sigAt Bs k).v ≤ (sigAt Bs (k - 1)).v))) := rfl
        have hsok : sigOk Bs k = (bits .and .u8 (sigAt Bs k).x 1 == 0) := rfl
        have htk : (Bs.take (k + 1)).map Sig.v = (Bs.take k).map Sig.v ++ [(sigAt Bs k).v] := by
          rw [List.take_add_one, List.map_append]
          simp [sigAt, List.getD, hkn]
        obtain ⟨pv, hpv⟩ : ∃ pv, (sigAt Bs (k - 1)).v = pv := ⟨_, rfl⟩
        have hprev : 0 < k → wr.cell? ⟨bb, bo + (k - 1) * 2, none⟩ = some (.int .i64 pv) := fun hk0 => by
          obtain ⟨bb2, bo2, g2, ea2, _, _, m1, _, _⟩ := HAB.out.keptG HG6.out hkg (k - 1) (by omega)
          simp only [Option.some.injEq, Addr.mk.injEq] at ea2
          obtain ⟨rfl, rfl, _⟩ := ea2
          rw [← hpv]; exact m1
        rw [hpv] at hpre
        generalize hcc2 : sigAt Bs k = c at k1 k3 hcv hpre hsok htk
        obtain ⟨cv, cx⟩ := c
        simp only at k1 k3 hcv hpre hsok htk
        obtain ⟨hcv0, hcv1, hcx0, hcx1⟩ := hcv
        obtain ⟨cvn, rfl⟩ : ∃ n : Nat, cv = (n : Int) := ⟨cv.toNat, by omega⟩
        obtain ⟨xn, rfl⟩ : ∃ n : Nat, cx = (n : Int) := ⟨cx.toNat, by omega⟩
        have hcvN : cvn < 16 := by omega
        have hxN : xn < 256 := by omega
        obtain ⟨pb, hpb6, hkc6, hpk6⟩ := HK6.out.all cvn hcvN
        have hpbl : pb < wr.heap.size := Nat.lt_of_lt_of_le hpb6 hlr
        have hpk : wr.cell? ⟨pb, 0, none⟩ = some (.int .u8 cvn) := by rw [hkg.cell (p := ⟨pb, 0, none⟩) hpb6 (ne_of_cell HG6.out hpk6 (by simp))]; exact hpk6
        have hkc : wr.cell? ⟨kb, cvn, none⟩ = some (.slice (some ⟨pb, 0, none⟩) 1 1) := by rw [hkg.cell (p := ⟨kb, cvn, none⟩) HK6.out.lt (ne_of_cell HG6.out hkc6 (by simp))]; exact hkc6
        obtain ⟨hg6, hg6c⟩ : g < w6.heap.size ∧ w6.cell? ⟨g, 0, none⟩ = some (.int .u8 xn) := by
          obtain ⟨b3, o3, g3, ea3, hb3, hg3, m1, m2, m3⟩ := HAB.out k hkn
          simp only [Option.some.injEq, Addr.mk.injEq] at ea3
          obtain ⟨rfl, rfl, _⟩ := ea3
          have hne := ne_of_cell HG6.out m1 (by simp)
          rw [hkg.cell (p := ⟨bb, bo + k * 2 + 1, none⟩) hb3 hne, m2] at k2
          simp only [Option.some.injEq, Value.slice.injEq, Addr.mk.injEq] at k2
          obtain ⟨⟨rfl, _⟩, _⟩ := k2
          rw [hcc2] at m3
          exact ⟨hg3, m3⟩
        clear hkc6 hpk6 hcc2
        have HTK := Hid.mk htk
        have HSOK := Hid.mk hsok
        have HPR := Hid.mk hprev
        have HHPRE := Hid.mk hpre
        clear hpv hcv0 hcv1 hcx0 hcx1 htk hsok hprev hpre
        go_wp2_with fail
        obtain ⟨wq, hwq⟩ : ∃ wq, wq = wr.alloc (.cells #[.int .i64 cvn, .slice (some ⟨g, 0, none⟩) 1 1] 41) := ⟨_, rfl⟩
        have hbq : Below wr.heap.size wr wq := by rw [hwq]; exact (Below.refl _ _).alloc (Nat.le_refl _) _
        have HCB : Hid (Blk wq wr.heap.size 41 [.int .i64 cvn, .slice (some ⟨g, 0, none⟩) 1 1]) := by rw [hwq]; exact Blk.new wr 41 #[.int .i64 cvn, .slice (some ⟨g, 0, none⟩) 1 1]
        have hcbl := HCB.out.lt
        rw [← hwq]
        clear hwq
        have hlq : w6.heap.size ≤ wq.heap.size := Nat.le_trans hlr hbq.size
        have hkq6 : KeptG w6.heap.size G w6 wq := hkg.trans (KeptG.of_below (hbq.mono hlr))
        have HBq : Hid (Blk wq G 26 [v]) := HBG.out.later hbq
        have HOq : Hid (OwnI wq w6.heap.size v ((Bs.take k).map Sig.v)) := HOG.out.later hbq
        have HTq := Hid.mk (HT6.out.keptG HG6.out hkq6)
        have hEq := HE6.out.keptG HG6.out hkq6
        have hrow : ∀ j, v.ownBlock = some j → w6.heap.size ≤ j ∧ j < wr.heap.size := fun j hj => HOG.out.lt j hj
        have hTG : T ≠ G := ne_of_cell HG6.out (HT1.out.cell 0 rfl) (by have := HF.out.s0; simp; omega)
        have hEG : E ≠ G := ne_of_cell HG6.out HE6.out.e.h (by simp)
        have hwG : w.heap.size ≠ G := ne_of_cell HG6.out (HQ6.out.cell 37 (by simpa using HCS.out.c37)) (by simp)
        have hkbG : kb ≠ G := by
          obtain ⟨b0, _, c0, _⟩ := HK6.out.all 0 (by decide)
          exact ne_of_cell HG6.out c0 (by simp)
        have hcbG : wr.heap.size ≠ G := by have := HBG.out.lt; omega
        have hbbG : bb ≠ G := by
          obtain ⟨b3, o3, g3, ea3, _, _, m1, _, _⟩ := HAB.out k hkn
          simp only [Option.some.injEq, Addr.mk.injEq] at ea3
          obtain ⟨rfl, rfl, _⟩ := ea3
          exact ne_of_cell HG6.out m1 (by simp)
        have hbb6 : bb < w6.heap.size := by
          obtain ⟨b3, o3, g3, ea3, hb3, _, m1, _, _⟩ := HAB.out k hkn
          simp only [Option.some.injEq, Addr.mk.injEq] at ea3
          obtain ⟨rfl, rfl, _⟩ := ea3
          exact hb3
        have hw06 : w.heap.size < w6.heap.size := HQ6.out.lt
        have fact : Hid (∀ W : World, (∀ j, j < wq.heap.size → j ≠ G → v.ownBlock ≠ some j → W.heap[j]? = wq.heap[j]?) →
            W.cell? ⟨T, 0, none⟩ = some (.slice sa S.length sc) ∧ W.cell? ⟨T, 1, none⟩ = some (.slice pa Pa.length pc) ∧ W.cell? ⟨T, 2, none⟩ = some (.slice la La.length lc) ∧ W.cell? ⟨wr.heap.size, 0, none⟩ = some (.int .i64 cvn) ∧ W.cell? ⟨wr.heap.size, 1, none⟩ = some (.slice (some ⟨g, 0, none⟩) 1 1) ∧ W.cell? ⟨E, 94, none⟩ = some (.int .u64 h) ∧
            W.cell? ⟨E, 78, none⟩ = some (.func (.func 8) #[] #[.pointer (some ⟨Mb, 0, none⟩), .pointer (some ⟨G, 0, none⟩), .pointer (some ⟨Wt, 0, none⟩)]) ∧ W.cell? ⟨E, 0, none⟩ = some (.slice (some ⟨kb, 0, none⟩) 16 16) ∧ W.cell? ⟨w.heap.size, 36, none⟩ = some (.slice (some ⟨bb, bo, none⟩) Bs.length bc) ∧ W.cell? ⟨kb, cvn, none⟩ = some (.slice (some ⟨pb, 0, none⟩) 1 1) ∧ (0 < k → W.cell? ⟨bb, bo + (k - 1) * 2, none⟩ = some (.int .i64 pv))) := fun W hW => by
          have low : ∀ j o, j < w6.heap.size → j ≠ G → W.cell? ⟨j, o, none⟩ = wq.cell? ⟨j, o, none⟩ := fun j o hj hne => World.cell?_of_block (w := wq) (w' := W) (a := ⟨j, o, none⟩) (hW j (by omega) hne (fun e => by have := (hrow j e).1; omega))
          have hT := hkq6.blk HT1.out hTl hTG
          have hQ := hkq6.blk HQ6.out hw06 hwG
          have hcbn : v.ownBlock ≠ some wr.heap.size := fun e => by have := (hrow _ e).2; omega
          have hcbW : ∀ o, W.cell? ⟨wr.heap.size, o, none⟩ = wq.cell? ⟨wr.heap.size, o, none⟩ := fun o => World.cell?_of_block (w := wq) (w' := W) (a := ⟨wr.heap.size, o, none⟩) (hW _ hcbl hcbG hcbn)
          have hkbl : kb < w6.heap.size := HK6.out.lt
          have hbq' := hbq
          refine ⟨?_, ?_, ?_, ?_, ?_, ?_, ?_, ?_, ?_, ?_, ?_⟩
          · rw [low _ _ hTl hTG]; exact hT.cell 0 rfl
          · rw [low _ _ hTl hTG]; exact hT.cell 1 rfl
          · rw [low _ _ hTl hTG]; exact hT.cell 2 rfl
          · rw [hcbW]; exact HCB.out.cell 0 rfl
          · rw [hcbW]; exact HCB.out.cell 1 rfl
          · rw [low _ _ HE6.out.e.lt hEG]; exact hEq.e.h
          · rw [low _ _ HE6.out.e.lt hEG]; exact hEq.ver
          · rw [low _ _ HE6.out.e.lt hEG]; exact hEq.keys
          · rw [low _ _ hw06 hwG]; exact hQ.cell 36 (by simpa using HCS.out.c36)
          · rw [low _ _ hkbl hkbG, hbq.cell (p := ⟨kb, cvn, none⟩) (Nat.lt_of_lt_of_le hkbl hlr)]; exact hkc
          · intro hk0; rw [low _ _ hbb6 hbbG, hbq.cell (p := ⟨bb, _, none⟩) (Nat.lt_of_lt_of_le hbb6 hlr)]; exact HPR.out hk0
        obtain ⟨cb, hcb⟩ : ∃ cb, wr.heap.size = cb := ⟨_, rfl⟩
        rw [hcb] at fact ⊢
        clear hEq hTG hEG hwG hkbG hcbG hbbG hbb6 k1 k2
        cases hlb : (hasB Pa (cvn : Int) && decide ((lapseOf La (cvn : Int)).b ≤ (h : Int))) with
        | false =>
          have HLB := Hid.mk hlb
          have HPRE : Hid (preOk Pa La h Bs k = false) := by rw [HHPRE.out, hlb]; rfl
          clear hlb
          have HC24 : Hid (Calls Ybaf.prog 24 #[.agg #[.slice sa S.length sc, .slice pa Pa.length pc, .slice la La.length lc], .int .i64 cvn, .int .u64 h] wq.drew fun e w' => ∃ u, e = .returned u ∧ u = .bool false ∧ Below wq.heap.size wq w') := by
            refine (letsBack24 _ _ _ S Pa La cvn h wq.drew (HTq.out.later (Below.refl _ _).drew) (by have := HF.out.p1; omega) (by have := HF.out.l1; omega) HSm.out ⟨by omega, by omega⟩).mono ?_
            rintro e w' ⟨rfl, hb⟩
            exact ⟨_, rfl, by rw [HLB.out], (Below.refl _ _).drew.trans hb⟩
          refine wp_region_can (fun W : World => ∀ j, j < wq.heap.size → j ≠ G → v.ownBlock ≠ some j → W.heap[j]? = wq.heap[j]?) [(0, true), (1, true), (2, true), (3, true), (4, true), (5, true), (6, true), (7, false), (8, true), (9, true), (10, true), (11, true), (12, true), (13, true), (14, true), (15, true), (16, true), (17, true), (18, true), (19, true), (20, true), (21, true), (22, true), (23, true), (24, true), (25, true), (26, true), (27, true), (28, true), (29, true), (30, true), (31, true), (32, true), (33, true), (34, true), (35, true), (36, true), (37, true), (38, true), (39, true), (40, true), (41, true), (42, true), (43, true), (44, true), (45, true)] (by kernel_rfl) (by kernel_rfl) (by kernel_rfl) rfl (fun _ _ _ _ => rfl) ?_
          refine stepR (some 58) (.agg #[.slice sa S.length sc, .slice pa Pa.length pc, .slice la La.length lc]) rfl rfl rfl (fun W hW => by have f0 := (fact.out W hW).1; have f1 := (fact.out W hW).2.1; have f2 := (fact.out W hW).2.2.1; go_simp) ?_
          refine stepR (some 59) (.pointer (some ⟨cb, 0, none⟩)) rfl rfl rfl (fun W hW => by go_simp) ?_
          refine stepR (some 60) (.int .i64 cvn) rfl rfl rfl (fun W hW => by have f := (fact.out W hW).2.2.2.1; go_simp) ?_
          refine stepR (some 61) (.pointer (some ⟨E, 0, none⟩)) rfl rfl rfl (fun W hW => by go_simp) ?_
          go_simp
          refine stepR (some 62) (.pointer (some ⟨E, 0, none⟩)) rfl rfl rfl (fun W hW => by go_simp) ?_
          refine stepR (some 63) (.pointer (some ⟨E, 94, none⟩)) rfl rfl rfl (fun W hW => by go_simp) ?_
          refine stepR (some 64) (.int .u64 h) rfl rfl rfl (fun W hW => by have f := (fact.out W hW).2.2.2.2.2.1; go_simp) ?_
          go_simp
          refine stepC (some 65) (f := 24) (args := #[.agg #[.slice sa S.length sc, .slice pa Pa.length pc, .slice la La.length lc], .int .i64 cvn, .int .u64 h]) (R := fun u w' => u = .bool false ∧ Below wq.heap.size wq w') rfl rfl rfl (by go_simp) HC24.out ?_
          rintro u w8 ⟨rfl, hb8⟩
          refine ⟨fun j hj _ _ => hb8.block j hj, ?_⟩
          refine stepR (some 66) (.bool true) rfl rfl rfl (fun W hW => by go_simp) ?_
          refine stepR (some 67) (.bool true) rfl rfl rfl (fun W hW => by go_simp) ?_
          go_simp
          refine stepN (some 68) rfl rfl (by first | rfl | go_simp) ?_
          refine stepN (some 69) rfl rfl (by first | rfl | go_simp) ?_
          refine stepN (some 70) rfl rfl (by first | rfl | go_simp) ?_
          refine stepN (some 71) rfl rfl (by first | rfl | go_simp) ?_
          go_simp
          refine stepN (some 72) rfl rfl (by first | rfl | go_simp) ?_
          refine stepN (some 73) rfl rfl (by first | rfl | go_simp) ?_
          refine stepN (some 74) rfl rfl (by first | rfl | go_simp) ?_
          refine stepN (some 75) rfl rfl (by first | rfl | go_simp) ?_
          go_simp
          refine stepN (some 76) rfl rfl (by first | rfl | go_simp) ?_
          refine stepN (some 77) rfl rfl (by first | rfl | go_simp) ?_
          refine stepN (some 78) rfl rfl (by first | rfl | go_simp) ?_
          refine stepN (some 79) rfl rfl (by first | rfl | go_simp) ?_
          go_simp
          refine stepN (some 80) rfl rfl (by first | rfl | go_simp) ?_
          refine stepN (some 81) rfl rfl (by first | rfl | go_simp) ?_
          go_simp
          refine stepR (some 82) (.bool true) rfl rfl rfl (fun W hW => by go_simp) ?_
          refine stepR (some 83) (.bool true) rfl rfl rfl (fun W hW => by go_simp) ?_
          go_simp
          refine stepN (some 84) rfl rfl (by first | rfl | go_simp) ?_
          refine stepN (some 85) rfl rfl (by first | rfl | go_simp) ?_
          refine stepN (some 86) rfl rfl (by first | rfl | go_simp) ?_
          refine stepN (some 87) rfl rfl (by first | rfl | go_simp) ?_
          go_simp
          refine stepN (some 88) rfl rfl (by first | rfl | go_simp) ?_
          refine stepN (some 89) rfl rfl (by first | rfl | go_simp) ?_
          refine stepN (some 90) rfl rfl (by first | rfl | go_simp) ?_
          refine stepN (some 91) rfl rfl (by first | rfl | go_simp) ?_
          go_simp
          refine stepN (some 92) rfl rfl (by first | rfl | go_simp) ?_
          refine stepN (some 93) rfl rfl (by first | rfl | go_simp) ?_
          refine stepN (some 94) rfl rfl (by first | rfl | go_simp) ?_
          refine stepN (some 95) rfl rfl (by first | rfl | go_simp) ?_
          go_simp
          refine stepN (some 96) rfl rfl (by first | rfl | go_simp) ?_
          refine stepN (some 97) rfl rfl (by first | rfl | go_simp) ?_
          refine stepN (some 98) rfl rfl (by first | rfl | go_simp) ?_
          refine stepN (some 99) rfl rfl (by first | rfl | go_simp) ?_
          go_simp
          refine stepN (some 100) rfl rfl (by first | rfl | go_simp) ?_
          refine stepN (some 101) rfl rfl (by first | rfl | go_simp) ?_
          refine stepN (some 102) rfl rfl (by first | rfl | go_simp) ?_
          go_simp
          refine stepR (some 103) (.bool true) rfl rfl rfl (fun W hW => by go_simp) ?_
          refine chain_nil ?_
          go_wp2
          go_ret2
          rw [HV.out]
          refine ⟨k, v, hk, HALL.out, HBq.out.later hb8, ?_, .inr (.inl ⟨HEQ.out, hkn, HPRE.out, rfl, own_base ((HOq.out.later hb8)) hbw6.size⟩)⟩
          exact (KeptG.of_below hbw6).trans ((hkq6.mono hbw6.size).trans (KeptG.of_below (hb8.mono (Nat.le_trans hbw6.size hlq))))
        | true =>
          have HLB := Hid.mk hlb
          by_cases hk0 : 0 < k
          · obtain ⟨kp, rfl⟩ : ∃ kp, k = kp + 1 := ⟨k - 1, by omega⟩
            have hkp : ((kp + 1 : Nat) : Int) - 1 = kp := by omega
            by_cases hle : (cvn : Int) ≤ pv
            · have HPRE : Hid (preOk Pa La h Bs (kp + 1) = false) := by rw [HHPRE.out, hlb]; simp [hle, Hid]
              clear hlb
              have HC24 : Hid (Calls Ybaf.prog 24 #[.agg #[.slice sa S.length sc, .slice pa Pa.length pc, .slice la La.length lc], .int .i64 cvn, .int .u64 h] wq.drew fun e w' => ∃ u, e = .returned u ∧ u = .bool true ∧ Below wq.heap.size wq w') := by
                refine (letsBack24 _ _ _ S Pa La cvn h wq.drew (HTq.out.later (Below.refl _ _).drew) (by have := HF.out.p1; omega) (by have := HF.out.l1; omega) HSm.out ⟨by omega, by omega⟩).mono ?_
                rintro e w' ⟨rfl, hb⟩
                exact ⟨_, rfl, by rw [HLB.out], (Below.refl _ _).drew.trans hb⟩
              refine wp_region_can (fun W : World => ∀ j, j < wq.heap.size → j ≠ G → v.ownBlock ≠ some j → W.heap[j]? = wq.heap[j]?) [(0, true), (1, true), (2, true), (3, true), (4, true), (5, true), (6, true), (7, false), (8, true), (9, true), (10, true), (11, true), (12, true), (13, true), (14, true), (15, true), (16, true), (17, true), (18, true), (19, true), (20, true), (21, true), (22, true), (23, true), (24, true), (25, true), (26, true), (27, true), (28, true), (29, true), (30, true), (31, true), (32, true), (33, true), (34, true), (35, true), (36, true), (37, true), (38, true), (39, true), (40, true), (41, true), (42, true), (43, true), (44, true), (45, true)] (by kernel_rfl) (by kernel_rfl) (by kernel_rfl) rfl (fun _ _ _ _ => rfl) ?_
              refine stepR (some 58) (.agg #[.slice sa S.length sc, .slice pa Pa.length pc, .slice la La.length lc]) rfl rfl rfl (fun W hW => by have f0 := (fact.out W hW).1; have f1 := (fact.out W hW).2.1; have f2 := (fact.out W hW).2.2.1; go_simp) ?_
              refine stepR (some 59) (.pointer (some ⟨cb, 0, none⟩)) rfl rfl rfl (fun W hW => by go_simp) ?_
              refine stepR (some 60) (.int .i64 cvn) rfl rfl rfl (fun W hW => by have f := (fact.out W hW).2.2.2.1; go_simp) ?_
              refine stepR (some 61) (.pointer (some ⟨E, 0, none⟩)) rfl rfl rfl (fun W hW => by go_simp) ?_
              go_simp
              refine stepR (some 62) (.pointer (some ⟨E, 0, none⟩)) rfl rfl rfl (fun W hW => by go_simp) ?_
              refine stepR (some 63) (.pointer (some ⟨E, 94, none⟩)) rfl rfl rfl (fun W hW => by go_simp) ?_
              refine stepR (some 64) (.int .u64 h) rfl rfl rfl (fun W hW => by have f := (fact.out W hW).2.2.2.2.2.1; go_simp) ?_
              go_simp
              refine stepC (some 65) (f := 24) (args := #[.agg #[.slice sa S.length sc, .slice pa Pa.length pc, .slice la La.length lc], .int .i64 cvn, .int .u64 h]) (R := fun u w' => u = .bool true ∧ Below wq.heap.size wq w') rfl rfl rfl (by go_simp) HC24.out ?_
              rintro u w8 ⟨rfl, hb8⟩
              refine ⟨fun j hj _ _ => hb8.block j hj, ?_⟩
              refine stepR (some 66) (.bool false) rfl rfl rfl (fun W hW => by go_simp) ?_
              refine stepR (some 67) (.bool false) rfl rfl rfl (fun W hW => by go_simp) ?_
              go_simp
              refine stepR (some 68) (.int .i64 ((kp : Int) + 1)) rfl rfl (by first | rfl | go_simp) (fun W hW => by go_simp) ?_
              refine stepR (some 69) (.bool true) rfl rfl (by first | rfl | go_simp) (fun W hW => by go_simp) ?_
              refine stepR (some 70) (.bool true) rfl rfl (by first | rfl | go_simp) (fun W hW => by go_simp) ?_
              go_simp
              refine stepR (some 71) (.pointer (some ⟨cb, 0, none⟩)) rfl rfl (by first | rfl | go_simp) (fun W hW => by go_simp) ?_
              refine stepR (some 72) (.int .i64 cvn) rfl rfl (by first | rfl | go_simp) (fun W hW => by have f := (fact.out W hW).2.2.2.1; go_simp) ?_
              refine stepR (some 73) (.pointer (some ⟨w.heap.size, 36, none⟩)) rfl rfl (by first | rfl | go_simp) (fun W hW => by go_simp) ?_
              refine stepR (some 74) (.slice (some ⟨bb, bo, none⟩) Bs.length bc) rfl rfl (by first | rfl | go_simp) (fun W hW => by have f := (fact.out W hW).2.2.2.2.2.2.2.2.1; go_simp) ?_
              go_simp
              refine stepR (some 75) (.int .i64 ((kp : Int) + 1)) rfl rfl (by first | rfl | go_simp) (fun W hW => by go_simp) ?_
              refine stepR (some 76) (.int .i64 kp) rfl rfl (by first | rfl | go_simp) (fun W hW => by go_simp; try (simp only [IntKind.wrap_i64]; omega)) ?_
              refine stepR (some 77) (.pointer (some ⟨bb, bo + kp * 2, none⟩)) rfl rfl (by first | rfl | go_simp) (fun W hW => by go_simp; try (intro hx; omega)) ?_
              go_simp
              refine stepR (some 78) (.pointer (some ⟨bb, bo + kp * 2, none⟩)) rfl rfl (by first | rfl | go_simp) (fun W hW => by go_simp) ?_
              refine stepR (some 79) (.int .i64 pv) rfl rfl (by first | rfl | go_simp) (fun W hW => by have f := (fact.out W hW).2.2.2.2.2.2.2.2.2.2 (Nat.succ_pos _); simp only [Nat.add_sub_cancel] at f; go_simp) ?_
              refine stepR (some 80) (.bool true) rfl rfl (by first | rfl | go_simp) (fun W hW => by go_simp) ?_
              go_simp
              refine stepR (some 81) (.bool true) rfl rfl (by first | rfl | go_simp) (fun W hW => by go_simp) ?_
              refine stepR (some 82) (.bool true) rfl rfl rfl (fun W hW => by go_simp) ?_
              refine stepR (some 83) (.bool true) rfl rfl rfl (fun W hW => by go_simp) ?_
              go_simp
              refine stepN (some 84) rfl rfl (by first | rfl | go_simp) ?_
              refine stepN (some 85) rfl rfl (by first | rfl | go_simp) ?_
              refine stepN (some 86) rfl rfl (by first | rfl | go_simp) ?_
              refine stepN (some 87) rfl rfl (by first | rfl | go_simp) ?_
              go_simp
              refine stepN (some 88) rfl rfl (by first | rfl | go_simp) ?_
              refine stepN (some 89) rfl rfl (by first | rfl | go_simp) ?_
              refine stepN (some 90) rfl rfl (by first | rfl | go_simp) ?_
              refine stepN (some 91) rfl rfl (by first | rfl | go_simp) ?_
              go_simp
              refine stepN (some 92) rfl rfl (by first | rfl | go_simp) ?_
              refine stepN (some 93) rfl rfl (by first | rfl | go_simp) ?_
              refine stepN (some 94) rfl rfl (by first | rfl | go_simp) ?_
              refine stepN (some 95) rfl rfl (by first | rfl | go_simp) ?_
              go_simp
              refine stepN (some 96) rfl rfl (by first | rfl | go_simp) ?_
              refine stepN (some 97) rfl rfl (by first | rfl | go_simp) ?_
              refine stepN (some 98) rfl rfl (by first | rfl | go_simp) ?_
              refine stepN (some 99) rfl rfl (by first | rfl | go_simp) ?_
              go_simp
              refine stepN (some 100) rfl rfl (by first | rfl | go_simp) ?_
              refine stepN (some 101) rfl rfl (by first | rfl | go_simp) ?_
              refine stepN (some 102) rfl rfl (by first | rfl | go_simp) ?_
              go_simp
              refine stepR (some 103) (.bool true) rfl rfl rfl (fun W hW => by go_simp) ?_
              refine chain_nil ?_
              go_wp2
              go_ret2
              rw [HV.out]
              refine ⟨(kp + 1), v, hk, HALL.out, HBq.out.later hb8, ?_, .inr (.inl ⟨HEQ.out, hkn, HPRE.out, rfl, own_base ((HOq.out.later hb8)) hbw6.size⟩)⟩
              exact (KeptG.of_below hbw6).trans ((hkq6.mono hbw6.size).trans (KeptG.of_below (hb8.mono (Nat.le_trans hbw6.size hlq))))
            · have HPRE : Hid (preOk Pa La h Bs (kp + 1) = true) := by rw [HHPRE.out, hlb]; simp [hle, Hid]
              clear hlb
              have HC24 : Hid (Calls Ybaf.prog 24 #[.agg #[.slice sa S.length sc, .slice pa Pa.length pc, .slice la La.length lc], .int .i64 cvn, .int .u64 h] wq.drew fun e w' => ∃ u, e = .returned u ∧ u = .bool true ∧ Below wq.heap.size wq w') := by
                refine (letsBack24 _ _ _ S Pa La cvn h wq.drew (HTq.out.later (Below.refl _ _).drew) (by have := HF.out.p1; omega) (by have := HF.out.l1; omega) HSm.out ⟨by omega, by omega⟩).mono ?_
                rintro e w' ⟨rfl, hb⟩
                exact ⟨_, rfl, by rw [HLB.out], (Below.refl _ _).drew.trans hb⟩
              refine wp_region_can (fun W : World => ∀ j, j < wq.heap.size → j ≠ G → v.ownBlock ≠ some j → W.heap[j]? = wq.heap[j]?) [(0, true), (1, true), (2, true), (3, true), (4, true), (5, true), (6, true), (7, false), (8, true), (9, true), (10, true), (11, true), (12, true), (13, true), (14, true), (15, true), (16, true), (17, true), (18, true), (19, true), (20, true), (21, true), (22, true), (23, true), (24, true), (25, true), (26, true), (27, true), (28, true), (29, true), (30, true), (31, true), (32, true), (33, true), (34, true), (35, true), (36, true), (37, true), (38, true), (39, true), (40, true), (41, true), (42, true), (43, false), (44, true), (45, true)] (by kernel_rfl) (by kernel_rfl) (by kernel_rfl) rfl (fun _ _ _ _ => rfl) ?_
              refine stepR (some 58) (.agg #[.slice sa S.length sc, .slice pa Pa.length pc, .slice la La.length lc]) rfl rfl rfl (fun W hW => by have f0 := (fact.out W hW).1; have f1 := (fact.out W hW).2.1; have f2 := (fact.out W hW).2.2.1; go_simp) ?_
              refine stepR (some 59) (.pointer (some ⟨cb, 0, none⟩)) rfl rfl rfl (fun W hW => by go_simp) ?_
              refine stepR (some 60) (.int .i64 cvn) rfl rfl rfl (fun W hW => by have f := (fact.out W hW).2.2.2.1; go_simp) ?_
              refine stepR (some 61) (.pointer (some ⟨E, 0, none⟩)) rfl rfl rfl (fun W hW => by go_simp) ?_
              go_simp
              refine stepR (some 62) (.pointer (some ⟨E, 0, none⟩)) rfl rfl rfl (fun W hW => by go_simp) ?_
              refine stepR (some 63) (.pointer (some ⟨E, 94, none⟩)) rfl rfl rfl (fun W hW => by go_simp) ?_
              refine stepR (some 64) (.int .u64 h) rfl rfl rfl (fun W hW => by have f := (fact.out W hW).2.2.2.2.2.1; go_simp) ?_
              go_simp
              refine stepC (some 65) (f := 24) (args := #[.agg #[.slice sa S.length sc, .slice pa Pa.length pc, .slice la La.length lc], .int .i64 cvn, .int .u64 h]) (R := fun u w' => u = .bool true ∧ Below wq.heap.size wq w') rfl rfl rfl (by go_simp) HC24.out ?_
              rintro u w8 ⟨rfl, hb8⟩
              refine ⟨fun j hj _ _ => hb8.block j hj, ?_⟩
              refine stepR (some 66) (.bool false) rfl rfl rfl (fun W hW => by go_simp) ?_
              refine stepR (some 67) (.bool false) rfl rfl rfl (fun W hW => by go_simp) ?_
              go_simp
              refine stepR (some 68) (.int .i64 ((kp : Int) + 1)) rfl rfl (by first | rfl | go_simp) (fun W hW => by go_simp) ?_
              refine stepR (some 69) (.bool true) rfl rfl (by first | rfl | go_simp) (fun W hW => by go_simp) ?_
              refine stepR (some 70) (.bool true) rfl rfl (by first | rfl | go_simp) (fun W hW => by go_simp) ?_
              go_simp
              refine stepR (some 71) (.pointer (some ⟨cb, 0, none⟩)) rfl rfl (by first | rfl | go_simp) (fun W hW => by go_simp) ?_
              refine stepR (some 72) (.int .i64 cvn) rfl rfl (by first | rfl | go_simp) (fun W hW => by have f := (fact.out W hW).2.2.2.1; go_simp) ?_
              refine stepR (some 73) (.pointer (some ⟨w.heap.size, 36, none⟩)) rfl rfl (by first | rfl | go_simp) (fun W hW => by go_simp) ?_
              refine stepR (some 74) (.slice (some ⟨bb, bo, none⟩) Bs.length bc) rfl rfl (by first | rfl | go_simp) (fun W hW => by have f := (fact.out W hW).2.2.2.2.2.2.2.2.1; go_simp) ?_
              go_simp
              refine stepR (some 75) (.int .i64 ((kp : Int) + 1)) rfl rfl (by first | rfl | go_simp) (fun W hW => by go_simp) ?_
              refine stepR (some 76) (.int .i64 kp) rfl rfl (by first | rfl | go_simp) (fun W hW => by go_simp; try (simp only [IntKind.wrap_i64]; omega)) ?_
              refine stepR (some 77) (.pointer (some ⟨bb, bo + kp * 2, none⟩)) rfl rfl (by first | rfl | go_simp) (fun W hW => by go_simp; try (intro hx; omega)) ?_
              go_simp
              refine stepR (some 78) (.pointer (some ⟨bb, bo + kp * 2, none⟩)) rfl rfl (by first | rfl | go_simp) (fun W hW => by go_simp) ?_
              refine stepR (some 79) (.int .i64 pv) rfl rfl (by first | rfl | go_simp) (fun W hW => by have f := (fact.out W hW).2.2.2.2.2.2.2.2.2.2 (Nat.succ_pos _); simp only [Nat.add_sub_cancel] at f; go_simp) ?_
              refine stepR (some 80) (.bool false) rfl rfl (by first | rfl | go_simp) (fun W hW => by go_simp) ?_
              go_simp
              refine stepR (some 81) (.bool false) rfl rfl (by first | rfl | go_simp) (fun W hW => by go_simp) ?_
              refine stepR (some 82) (.bool false) rfl rfl rfl (fun W hW => by go_simp) ?_
              refine stepR (some 83) (.bool false) rfl rfl rfl (fun W hW => by go_simp) ?_
              go_simp
              refine stepR (some 84) (.pointer (some ⟨E, 0, none⟩)) rfl rfl (by first | rfl | go_simp) (fun W hW => by go_simp) ?_
              refine stepR (some 85) (.pointer (some ⟨E, 0, none⟩)) rfl rfl (by first | rfl | go_simp) (fun W hW => by go_simp) ?_
              refine stepR (some 86) (.pointer (some ⟨E, 0, none⟩)) rfl rfl (by first | rfl | go_simp) (fun W hW => by go_simp) ?_
              refine stepR (some 87) (.pointer (some ⟨E, 78, none⟩)) rfl rfl (by first | rfl | go_simp) (fun W hW => by go_simp) ?_
              go_simp
              refine stepR (some 88) (.func (.func 8) #[] #[.pointer (some ⟨Mb, 0, none⟩), .pointer (some ⟨G, 0, none⟩), .pointer (some ⟨Wt, 0, none⟩)]) rfl rfl (by first | rfl | go_simp) (fun W hW => by have f := (fact.out W hW).2.2.2.2.2.2.1; go_simp) ?_
              refine stepR (some 89) (.pointer (some ⟨E, 0, none⟩)) rfl rfl (by first | rfl | go_simp) (fun W hW => by go_simp) ?_
              refine stepR (some 90) (.pointer (some ⟨E, 0, none⟩)) rfl rfl (by first | rfl | go_simp) (fun W hW => by go_simp) ?_
              refine stepR (some 91) (.pointer (some ⟨E, 0, none⟩)) rfl rfl (by first | rfl | go_simp) (fun W hW => by go_simp) ?_
              go_simp
              refine stepR (some 92) (.pointer (some ⟨E, 0, none⟩)) rfl rfl (by first | rfl | go_simp) (fun W hW => by go_simp) ?_
              refine stepR (some 93) (.slice (some ⟨kb, 0, none⟩) 16 16) rfl rfl (by first | rfl | go_simp) (fun W hW => by have f := (fact.out W hW).2.2.2.2.2.2.2.1; go_simp) ?_
              refine stepR (some 94) (.pointer (some ⟨cb, 0, none⟩)) rfl rfl (by first | rfl | go_simp) (fun W hW => by go_simp) ?_
              refine stepR (some 95) (.int .i64 cvn) rfl rfl (by first | rfl | go_simp) (fun W hW => by have f := (fact.out W hW).2.2.2.1; go_simp) ?_
              go_simp
              refine stepR (some 96) (.pointer (some ⟨kb, cvn, none⟩)) rfl rfl (by first | rfl | go_simp) (fun W hW => by go_simp; try (intro hx; omega)) ?_
              refine stepR (some 97) (.slice (some ⟨pb, 0, none⟩) 1 1) rfl rfl (by first | rfl | go_simp) (fun W hW => by have f := (fact.out W hW).2.2.2.2.2.2.2.2.2.1; go_simp) ?_
              refine stepR (some 98) (sg) rfl rfl (by first | rfl | go_simp) (fun W hW => by go_simp) ?_
              refine stepR (some 99) (.pointer (some ⟨cb, 1, none⟩)) rfl rfl (by first | rfl | go_simp) (fun W hW => by go_simp) ?_
              go_simp
              refine stepR (some 100) (.slice (some ⟨g, 0, none⟩) 1 1) rfl rfl (by first | rfl | go_simp) (fun W hW => by have f := (fact.out W hW).2.2.2.2.1; go_simp) ?_
              go_simp
              have hk8 : KeptG w6.heap.size G w6 w8 := hkq6.trans (KeptG.of_below (hb8.mono hlq))
              have HC8 : Hid (Calls Ybaf.prog 8 #[.slice (some ⟨pb, 0, none⟩) 1 1, sg, .slice (some ⟨g, 0, none⟩) 1 1, .pointer (some ⟨Mb, 0, none⟩), .pointer (some ⟨G, 0, none⟩), .pointer (some ⟨Wt, 0, none⟩)] w8 fun e w' => ∃ u, e = .returned u ∧ u = .bool (bits .and .u8 (xn : Int) 1 == 0) ∧ ∃ v', Blk w' G 26 [v'] ∧ OwnI w' w6.heap.size v' ((Bs.take (kp + 1)).map Sig.v ++ [(cvn : Int)]) ∧ KeptG w6.heap.size G w8 w' ∧ ∀ j, j < w8.heap.size → j ≠ G → v.ownBlock ≠ some j → w'.heap[j]? = w8.heap[j]?) := by
                have hWG : Wt ≠ G := by
                  obtain ⟨b9, o9, c9, e9, _, _⟩ := HW6.out
                  have h9 : w6.cell? ⟨Wt, 0, none⟩ = some want := by rw [hbw6.cell (p := ⟨Wt, 0, none⟩) hWl]; exact HWt.out
                  exact ne_of_cell HG6.out h9 (by rw [e9]; simp)
                have hMG : Mb ≠ G := ne_of_cell HG6.out ((HMb.out.later hbw6).cell 0 rfl) (by simp)
                have hgG : g ≠ G := ne_of_cell HG6.out hg6c (by simp)
                have hMl : Mb < w6.heap.size := (HMb.out.later hbw6).lt
                have hWl6 : Wt < w6.heap.size := Nat.lt_of_lt_of_le hWl hbw6.size
                have hGl : G < w6.heap.size := HG6.out.lt
                have p8 : w8.cell? ⟨pb, 0, none⟩ = some (.int .u8 cvn) := by rw [hb8.cell (p := ⟨pb, 0, none⟩) (Nat.lt_of_lt_of_le hpbl hbq.size), hbq.cell (p := ⟨pb, 0, none⟩) hpbl]; exact hpk
                have s8 : w8.cell? ⟨g, 0, none⟩ = some (.int .u8 xn) := by rw [hb8.cell (p := ⟨g, 0, none⟩) (Nat.lt_of_lt_of_le hgl hbq.size), hbq.cell (p := ⟨g, 0, none⟩) hgl]; exact k3
                have W8 : w8.cell? ⟨Wt, 0, none⟩ = some want := by rw [hk8.cell (p := ⟨Wt, 0, none⟩) hWl6 hWG, hbw6.cell (p := ⟨Wt, 0, none⟩) hWl]; exact HWt.out
                have hB0 : ∀ W, KeptG w6.heap.size G w8 W → Bys W want X ∧ Bys W sg X := fun W hW => ⟨HW6.out.keptG (by omega) HG6.out (hk8.trans hW), HSG.out.keptG (by omega) HG6.out (hk8.trans hW)⟩
                obtain ⟨y1, y2⟩ := hB0 w8 (KeptG.of_below (Below.refl _ _))
                refine (verify8 _ _ _ want v X ((Bs.take (kp + 1)).map Sig.v) pb g Mb G Wt w6.heap.size cvn xn w8 rfl p8 rfl s8 (hk8.blk (HMb.out.later hbw6) hMl hMG) (HBq.out.later hb8) (HOq.out.later hb8) W8 y1 y2 hGl hpb6 (by omega) hxN (by first | (simp; done) | (simp; omega)) (Nat.le_trans hlq hb8.size) hWG ⟨hg6, hWl6, hMl⟩ ⟨hgG, hMG⟩ hB0).mono ?_
                rintro e w' ⟨rfl, v', r1, r2, r3, r4⟩
                exact ⟨_, rfl, rfl, v', r1, r2, r3, r4⟩
              refine stepC (some 101) (f := 8) (args := #[.slice (some ⟨pb, 0, none⟩) 1 1, sg, .slice (some ⟨g, 0, none⟩) 1 1, .pointer (some ⟨Mb, 0, none⟩), .pointer (some ⟨G, 0, none⟩), .pointer (some ⟨Wt, 0, none⟩)]) (R := fun u w' => u = .bool (bits .and .u8 (xn : Int) 1 == 0) ∧ ∃ v', Blk w' G 26 [v'] ∧ OwnI w' w6.heap.size v' ((Bs.take (kp + 1)).map Sig.v ++ [(cvn : Int)]) ∧ KeptG w6.heap.size G w8 w' ∧ ∀ j, j < w8.heap.size → j ≠ G → v.ownBlock ≠ some j → w'.heap[j]? = w8.heap[j]?) rfl rfl (by first | rfl | go_simp) (by go_simp) HC8.out ?_
              rintro u w9 ⟨rfl, v', hB9, hO9, hk9, hf9⟩
              refine ⟨fun j hj hne hro => (hf9 j (Nat.lt_of_lt_of_le hj hb8.size) hne hro).trans (hb8.block j hj), ?_⟩
              have HB9 := Hid.mk hB9
              have HO9 := Hid.mk hO9
              have hk69 : KeptG w6.heap.size G w6 w9 := hk8.trans hk9
              clear hB9 hO9 hf9 HC8 HC24
              go_simp
              cases hbit : (bits .and .u8 (xn : Int) 1 == 0) with
              | true =>
                have HSIG : Hid (sigOk Bs (kp + 1) = true) := by rw [HSOK.out]; exact hbit
                rw [← HTK.out] at HO9
                clear hbit
                refine stepR (some 102) (.bool false) rfl rfl (by first | rfl | go_simp) (fun W hW => by go_simp) ?_
                refine stepR (some 103) (.bool false) rfl rfl rfl (fun W hW => by go_simp) ?_
                refine chain_nil ?_
                go_wp2
                go_roundw
                case rel =>
                  refine ⟨(kp + 1) + 1, v', by omega, by go_num, hk69, HB9, HO9, fun j hj => ?_⟩
                  by_cases hjk : j = (kp + 1)
                  · subst hjk; exact ⟨HPRE.out, HSIG.out⟩
                  · exact HALL.out j (by omega)
                case measure => simp [intOf]; omega
              | false =>
                have HSIG : Hid (sigOk Bs (kp + 1) = false) := by rw [HSOK.out]; exact hbit
                rw [← HTK.out] at HO9
                clear hbit
                refine stepR (some 102) (.bool true) rfl rfl (by first | rfl | go_simp) (fun W hW => by go_simp) ?_
                refine stepR (some 103) (.bool true) rfl rfl rfl (fun W hW => by go_simp) ?_
                refine chain_nil ?_
                go_wp2
                go_ret2
                rw [HV.out]
                first
                  | exact ⟨(kp + 1), v', by omega, HALL.out, HB9.out, (KeptG.of_below hbw6).trans (hk69.mono hbw6.size), .inr (.inr (.inl ⟨HEQ.out, hkn, HPRE.out, HSIG.out, rfl, own_base HO9.out hbw6.size⟩))⟩
                  | exact ⟨(kp + 1), by omega, HALL.out, v', HB9.out, (KeptG.of_below hbw6).trans (hk69.mono hbw6.size), .inr (.inr (.inl ⟨HEQ.out, hkn, HPRE.out, HSIG.out, rfl, (by have h7 := own_base HO9.out hbw6.size; rw [List.map_take] at h7; exact h7)⟩))⟩
          · obtain rfl : k = 0 := by omega
            have HPRE : Hid (preOk Pa La h Bs 0 = true) := by rw [HHPRE.out, hlb]; simp [Hid]
            clear hlb
            have HC24 : Hid (Calls Ybaf.prog 24 #[.agg #[.slice sa S.length sc, .slice pa Pa.length pc, .slice la La.length lc], .int .i64 cvn, .int .u64 h] wq.drew fun e w' => ∃ u, e = .returned u ∧ u = .bool true ∧ Below wq.heap.size wq w') := by
              refine (letsBack24 _ _ _ S Pa La cvn h wq.drew (HTq.out.later (Below.refl _ _).drew) (by have := HF.out.p1; omega) (by have := HF.out.l1; omega) HSm.out ⟨by omega, by omega⟩).mono ?_
              rintro e w' ⟨rfl, hb⟩
              exact ⟨_, rfl, by rw [HLB.out], (Below.refl _ _).drew.trans hb⟩
            refine wp_region_can (fun W : World => ∀ j, j < wq.heap.size → j ≠ G → v.ownBlock ≠ some j → W.heap[j]? = wq.heap[j]?) [(0, true), (1, true), (2, true), (3, true), (4, true), (5, true), (6, true), (7, false), (8, true), (9, true), (10, true), (11, true), (12, true), (13, true), (14, true), (15, true), (16, true), (17, true), (18, true), (19, true), (20, true), (21, true), (22, true), (23, true), (24, true), (25, true), (26, true), (27, true), (28, true), (29, true), (30, true), (31, true), (32, true), (33, true), (34, true), (35, true), (36, true), (37, true), (38, true), (39, true), (40, true), (41, true), (42, true), (43, false), (44, true), (45, true)] (by kernel_rfl) (by kernel_rfl) (by kernel_rfl) rfl (fun _ _ _ _ => rfl) ?_
            refine stepR (some 58) (.agg #[.slice sa S.length sc, .slice pa Pa.length pc, .slice la La.length lc]) rfl rfl rfl (fun W hW => by have f0 := (fact.out W hW).1; have f1 := (fact.out W hW).2.1; have f2 := (fact.out W hW).2.2.1; go_simp) ?_
            refine stepR (some 59) (.pointer (some ⟨cb, 0, none⟩)) rfl rfl rfl (fun W hW => by go_simp) ?_
            refine stepR (some 60) (.int .i64 cvn) rfl rfl rfl (fun W hW => by have f := (fact.out W hW).2.2.2.1; go_simp) ?_
            refine stepR (some 61) (.pointer (some ⟨E, 0, none⟩)) rfl rfl rfl (fun W hW => by go_simp) ?_
            go_simp
            refine stepR (some 62) (.pointer (some ⟨E, 0, none⟩)) rfl rfl rfl (fun W hW => by go_simp) ?_
            refine stepR (some 63) (.pointer (some ⟨E, 94, none⟩)) rfl rfl rfl (fun W hW => by go_simp) ?_
            refine stepR (some 64) (.int .u64 h) rfl rfl rfl (fun W hW => by have f := (fact.out W hW).2.2.2.2.2.1; go_simp) ?_
            go_simp
            refine stepC (some 65) (f := 24) (args := #[.agg #[.slice sa S.length sc, .slice pa Pa.length pc, .slice la La.length lc], .int .i64 cvn, .int .u64 h]) (R := fun u w' => u = .bool true ∧ Below wq.heap.size wq w') rfl rfl rfl (by go_simp) HC24.out ?_
            rintro u w8 ⟨rfl, hb8⟩
            refine ⟨fun j hj _ _ => hb8.block j hj, ?_⟩
            refine stepR (some 66) (.bool false) rfl rfl rfl (fun W hW => by go_simp) ?_
            refine stepR (some 67) (.bool false) rfl rfl rfl (fun W hW => by go_simp) ?_
            go_simp
            refine stepR (some 68) (.int .i64 0) rfl rfl (by first | rfl | go_simp) (fun W hW => by go_simp) ?_
            refine stepR (some 69) (.bool false) rfl rfl (by first | rfl | go_simp) (fun W hW => by go_simp) ?_
            refine stepR (some 70) (.bool false) rfl rfl (by first | rfl | go_simp) (fun W hW => by go_simp) ?_
            go_simp
            refine stepN (some 71) rfl rfl (by first | rfl | go_simp) ?_
            go_simp
            refine stepN (some 72) rfl rfl (by first | rfl | go_simp) ?_
            refine stepN (some 73) rfl rfl (by first | rfl | go_simp) ?_
            refine stepN (some 74) rfl rfl (by first | rfl | go_simp) ?_
            refine stepN (some 75) rfl rfl (by first | rfl | go_simp) ?_
            go_simp
            refine stepN (some 76) rfl rfl (by first | rfl | go_simp) ?_
            refine stepN (some 77) rfl rfl (by first | rfl | go_simp) ?_
            refine stepN (some 78) rfl rfl (by first | rfl | go_simp) ?_
            refine stepN (some 79) rfl rfl (by first | rfl | go_simp) ?_
            go_simp
            refine stepN (some 80) rfl rfl (by first | rfl | go_simp) ?_
            go_simp
            refine stepR (some 81) (.bool false) rfl rfl (by first | rfl | go_simp) (fun W hW => by go_simp) ?_
            refine stepR (some 82) (.bool false) rfl rfl rfl (fun W hW => by go_simp) ?_
            refine stepR (some 83) (.bool false) rfl rfl rfl (fun W hW => by go_simp) ?_
            go_simp
            refine stepR (some 84) (.pointer (some ⟨E, 0, none⟩)) rfl rfl (by first | rfl | go_simp) (fun W hW => by go_simp) ?_
            refine stepR (some 85) (.pointer (some ⟨E, 0, none⟩)) rfl rfl (by first | rfl | go_simp) (fun W hW => by go_simp) ?_
            refine stepR (some 86) (.pointer (some ⟨E, 0, none⟩)) rfl rfl (by first | rfl | go_simp) (fun W hW => by go_simp) ?_
            refine stepR (some 87) (.pointer (some ⟨E, 78, none⟩)) rfl rfl (by first | rfl | go_simp) (fun W hW => by go_simp) ?_
            go_simp
            refine stepR (some 88) (.func (.func 8) #[] #[.pointer (some ⟨Mb, 0, none⟩), .pointer (some ⟨G, 0, none⟩), .pointer (some ⟨Wt, 0, none⟩)]) rfl rfl (by first | rfl | go_simp) (fun W hW => by have f := (fact.out W hW).2.2.2.2.2.2.1; go_simp) ?_
            refine stepR (some 89) (.pointer (some ⟨E, 0, none⟩)) rfl rfl (by first | rfl | go_simp) (fun W hW => by go_simp) ?_
            refine stepR (some 90) (.pointer (some ⟨E, 0, none⟩)) rfl rfl (by first | rfl | go_simp) (fun W hW => by go_simp) ?_
            refine stepR (some 91) (.pointer (some ⟨E, 0, none⟩)) rfl rfl (by first | rfl | go_simp) (fun W hW => by go_simp) ?_
            go_simp
            refine stepR (some 92) (.pointer (some ⟨E, 0, none⟩)) rfl rfl (by first | rfl | go_simp) (fun W hW => by go_simp) ?_
            refine stepR (some 93) (.slice (some ⟨kb, 0, none⟩) 16 16) rfl rfl (by first | rfl | go_simp) (fun W hW => by have f := (fact.out W hW).2.2.2.2.2.2.2.1; go_simp) ?_
            refine stepR (some 94) (.pointer (some ⟨cb, 0, none⟩)) rfl rfl (by first | rfl | go_simp) (fun W hW => by go_simp) ?_
            refine stepR (some 95) (.int .i64 cvn) rfl rfl (by first | rfl | go_simp) (fun W hW => by have f := (fact.out W hW).2.2.2.1; go_simp) ?_
            go_simp
            refine stepR (some 96) (.pointer (some ⟨kb, cvn, none⟩)) rfl rfl (by first | rfl | go_simp) (fun W hW => by go_simp; try (intro hx; omega)) ?_
            refine stepR (some 97) (.slice (some ⟨pb, 0, none⟩) 1 1) rfl rfl (by first | rfl | go_simp) (fun W hW => by have f := (fact.out W hW).2.2.2.2.2.2.2.2.2.1; go_simp) ?_
            refine stepR (some 98) (sg) rfl rfl (by first | rfl | go_simp) (fun W hW => by go_simp) ?_
            refine stepR (some 99) (.pointer (some ⟨cb, 1, none⟩)) rfl rfl (by first | rfl | go_simp) (fun W hW => by go_simp) ?_
            go_simp
            refine stepR (some 100) (.slice (some ⟨g, 0, none⟩) 1 1) rfl rfl (by first | rfl | go_simp) (fun W hW => by have f := (fact.out W hW).2.2.2.2.1; go_simp) ?_
            go_simp
            have hk8 : KeptG w6.heap.size G w6 w8 := hkq6.trans (KeptG.of_below (hb8.mono hlq))
            have HC8 : Hid (Calls Ybaf.prog 8 #[.slice (some ⟨pb, 0, none⟩) 1 1, sg, .slice (some ⟨g, 0, none⟩) 1 1, .pointer (some ⟨Mb, 0, none⟩), .pointer (some ⟨G, 0, none⟩), .pointer (some ⟨Wt, 0, none⟩)] w8 fun e w' => ∃ u, e = .returned u ∧ u = .bool (bits .and .u8 (xn : Int) 1 == 0) ∧ ∃ v', Blk w' G 26 [v'] ∧ OwnI w' w6.heap.size v' ((Bs.take 0).map Sig.v ++ [(cvn : Int)]) ∧ KeptG w6.heap.size G w8 w' ∧ ∀ j, j < w8.heap.size → j ≠ G → v.ownBlock ≠ some j → w'.heap[j]? = w8.heap[j]?) := by
              have hWG : Wt ≠ G := by
                obtain ⟨b9, o9, c9, e9, _, _⟩ := HW6.out
                have h9 : w6.cell? ⟨Wt, 0, none⟩ = some want := by rw [hbw6.cell (p := ⟨Wt, 0, none⟩) hWl]; exact HWt.out
                exact ne_of_cell HG6.out h9 (by rw [e9]; simp)
              have hMG : Mb ≠ G := ne_of_cell HG6.out ((HMb.out.later hbw6).cell 0 rfl) (by simp)
              have hgG : g ≠ G := ne_of_cell HG6.out hg6c (by simp)
              have hMl : Mb < w6.heap.size := (HMb.out.later hbw6).lt
              have hWl6 : Wt < w6.heap.size := Nat.lt_of_lt_of_le hWl hbw6.size
              have hGl : G < w6.heap.size := HG6.out.lt
              have p8 : w8.cell? ⟨pb, 0, none⟩ = some (.int .u8 cvn) := by rw [hb8.cell (p := ⟨pb, 0, none⟩) (Nat.lt_of_lt_of_le hpbl hbq.size), hbq.cell (p := ⟨pb, 0, none⟩) hpbl]; exact hpk
              have s8 : w8.cell? ⟨g, 0, none⟩ = some (.int .u8 xn) := by rw [hb8.cell (p := ⟨g, 0, none⟩) (Nat.lt_of_lt_of_le hgl hbq.size), hbq.cell (p := ⟨g, 0, none⟩) hgl]; exact k3
              have W8 : w8.cell? ⟨Wt, 0, none⟩ = some want := by rw [hk8.cell (p := ⟨Wt, 0, none⟩) hWl6 hWG, hbw6.cell (p := ⟨Wt, 0, none⟩) hWl]; exact HWt.out
              have hB0 : ∀ W, KeptG w6.heap.size G w8 W → Bys W want X ∧ Bys W sg X := fun W hW => ⟨HW6.out.keptG (by omega) HG6.out (hk8.trans hW), HSG.out.keptG (by omega) HG6.out (hk8.trans hW)⟩
              obtain ⟨y1, y2⟩ := hB0 w8 (KeptG.of_below (Below.refl _ _))
              refine (verify8 _ _ _ want v X ((Bs.take 0).map Sig.v) pb g Mb G Wt w6.heap.size cvn xn w8 rfl p8 rfl s8 (hk8.blk (HMb.out.later hbw6) hMl hMG) (HBq.out.later hb8) (HOq.out.later hb8) W8 y1 y2 hGl hpb6 (by omega) hxN (by first | (simp; done) | (simp; omega)) (Nat.le_trans hlq hb8.size) hWG ⟨hg6, hWl6, hMl⟩ ⟨hgG, hMG⟩ hB0).mono ?_
              rintro e w' ⟨rfl, v', r1, r2, r3, r4⟩
              exact ⟨_, rfl, rfl, v', r1, r2, r3, r4⟩
            refine stepC (some 101) (f := 8) (args := #[.slice (some ⟨pb, 0, none⟩) 1 1, sg, .slice (some ⟨g, 0, none⟩) 1 1, .pointer (some ⟨Mb, 0, none⟩), .pointer (some ⟨G, 0, none⟩), .pointer (some ⟨Wt, 0, none⟩)]) (R := fun u w' => u = .bool (bits .and .u8 (xn : Int) 1 == 0) ∧ ∃ v', Blk w' G 26 [v'] ∧ OwnI w' w6.heap.size v' ((Bs.take 0).map Sig.v ++ [(cvn : Int)]) ∧ KeptG w6.heap.size G w8 w' ∧ ∀ j, j < w8.heap.size → j ≠ G → v.ownBlock ≠ some j → w'.heap[j]? = w8.heap[j]?) rfl rfl (by first | rfl | go_simp) (by go_simp) HC8.out ?_
            rintro u w9 ⟨rfl, v', hB9, hO9, hk9, hf9⟩
            refine ⟨fun j hj hne hro => (hf9 j (Nat.lt_of_lt_of_le hj hb8.size) hne hro).trans (hb8.block j hj), ?_⟩
            have HB9 := Hid.mk hB9
            have HO9 := Hid.mk hO9
            have hk69 : KeptG w6.heap.size G w6 w9 := hk8.trans hk9
            clear hB9 hO9 hf9 HC8 HC24
            go_simp
            cases hbit : (bits .and .u8 (xn : Int) 1 == 0) with
            | true =>
              have HSIG : Hid (sigOk Bs 0 = true) := by rw [HSOK.out]; exact hbit
              rw [← HTK.out] at HO9
              clear hbit
              refine stepR (some 102) (.bool false) rfl rfl (by first | rfl | go_simp) (fun W hW => by go_simp) ?_
              refine stepR (some 103) (.bool false) rfl rfl rfl (fun W hW => by go_simp) ?_
              refine chain_nil ?_
              go_wp2
              go_roundw
              case rel =>
                refine ⟨0 + 1, v', by omega, by go_num, hk69, HB9, HO9, fun j hj => ?_⟩
                by_cases hjk : j = 0
                · subst hjk; exact ⟨HPRE.out, HSIG.out⟩
                · exact HALL.out j (by omega)
              case measure => simp [intOf]; omega
            | false =>
              have HSIG : Hid (sigOk Bs 0 = false) := by rw [HSOK.out]; exact hbit
              rw [← HTK.out] at HO9
              clear hbit
              refine stepR (some 102) (.bool true) rfl rfl (by first | rfl | go_simp) (fun W hW => by go_simp) ?_
              refine stepR (some 103) (.bool true) rfl rfl rfl (fun W hW => by go_simp) ?_
              refine chain_nil ?_
              go_wp2
              go_ret2
              rw [HV.out]
              first
                | exact ⟨0, v', by omega, HALL.out, HB9.out, (KeptG.of_below hbw6).trans (hk69.mono hbw6.size), .inr (.inr (.inl ⟨HEQ.out, hkn, HPRE.out, HSIG.out, rfl, own_base HO9.out hbw6.size⟩))⟩
                | exact ⟨0, by omega, HALL.out, v', HB9.out, (KeptG.of_below hbw6).trans (hk69.mono hbw6.size), .inr (.inr (.inl ⟨HEQ.out, hkn, HPRE.out, HSIG.out, rfl, (by have h7 := own_base HO9.out hbw6.size; rw [List.map_take] at h7; exact h7)⟩))⟩
      · obtain rfl : k = Bs.length := by omega
        rw [List.take_length] at HOG
        have hTr := HT6.out.keptG HG6.out hkg
        have hEr := HE6.out.keptG HG6.out hkg
        have HTr := Hid.mk hTr
        have HEr := Hid.mk hEr.e
        have HMr := Hid.mk ((HMi.out.later hbw6).keptG HG6.out hkg)
        have HSr : Hid (Sigs wr (.slice ba Bs.length bc) Bs) := ⟨ba, bc, rfl, HAB.out.keptG HG6.out hkg⟩
        have HPr := Hid.mk ((HBp.out.later hbw6).keptG HG6.out hkg)
        have HLr := Hid.mk ((HBl.out.later hbw6).keptG HG6.out hkg)
        have hwG : w.heap.size ≠ G := ne_of_cell HG6.out (HQ6.out.cell 37 (by simpa using HCS.out.c37)) (by simp)
        have hw06 : w.heap.size < w6.heap.size := HQ6.out.lt
        have HQr := Hid.mk (hkg.blk HQ6.out hw06 hwG)
        have hc41 := HCS.out.n
        have h39 : (Ybaf.prog.info? 39).map (·.size) = some cs.size := by rw [hc41]; exact size39
        have hrowQ : wr.heap[w.heap.size]? = some (.cells cs 39 (0, 0)) := by have := HQr.out; unfold Blk at this; simpa using this
        have HROW := Hid.mk hrowQ
        have HSZ := Hid.mk h39
        have HPL : (lapsF S Pa M S La h).length ≤ 16 := Nat.le_trans (lapsF_len _ _ _ _ _ _) HF.out.s1
        clear hTr hEr hrowQ h39
        obtain ⟨bpa, bpc, ebp, _, _, _⟩ := HBp.out
        subst ebp
        obtain ⟨bla, blc, ebl, _, _, _⟩ := HBl.out
        subst ebl
        by_cases hP : BP = passF Pa M (Bs.map Sig.v) S
        · have HP := Hid.mk hP
          have HD : Hid (decide (BP = passF Pa M (Bs.map Sig.v) S) = true) := by unfold Hid; simpa using hP
          clear hP
          go_wp2_with (first
              | (refine wpList_load_row rfl 39 (.tmp 3) rfl w.heap.size rfl 39 cs (0, 0) _ HROW.out Ybaf.underlying39 rfl HSZ.out ?_)
              | (go_at_call 10; refine (turnsAfter10 E _ _ _ _ _ S Pa M La Bs cs h _ HEr.out HTr.out HF.out HMr.out HSr.out HCS.out.n HCS.out.c33 HCS.out.c34 HCS.out.c36 hM hBs HSm.out HGd.out HbS.out hh).mono ?_; rintro e w8 ⟨r1, r2, rfl, ho1, ho2, hb8⟩; have HO1 := Hid.mk ho1; have HO2 := Hid.mk ho2; obtain ⟨a1, c1, rfl⟩ := ho1.shape; obtain ⟨a2, c2, rfl⟩ := ho2.shape; have z35 : ∀ o, (w8.alloc o).cell? ⟨w.heap.size, 35, none⟩ = some (.slice bpa BP.length bpc) := (fun o => ((HQr.out.later hb8).alloc o).cell 35 (by simpa using HCS.out.c35)); have z38 : ∀ o, (w8.alloc o).cell? ⟨w.heap.size, 38, none⟩ = some (.slice bla BL.length blc) := (fun o => ((HQr.out.later hb8).alloc o).cell 38 (by simpa using HCS.out.c38)); have hkp8 : KeptG w6.heap.size G w6 w8 := hkg.trans (KeptG.of_below (hb8.mono hlr)); clear ho1 ho2)
              | (go_at_call 13; refine (equal13 _ _ BP (passF Pa M (Bs.map Sig.v) S) _ (HPr.out.later (below_alloc hb8 _)) (HO1.out.ints.later ((Below.refl _ _).alloc (Nat.le_refl _) _)) (by omega) (by have := passF_len Pa M (Bs.map Sig.v) S; have := HF.out.p1; omega)).mono ?_; rw [HD.out]; rintro e w9 ⟨rfl, hb9⟩; have hb89 : Below w8.heap.size w8 w9 := ((Below.refl _ _).alloc (Nat.le_refl _) _).trans (hb9.mono (by simp)); have q9 := ((HQr.out.later hb8).later hb89).cell 38 (by simpa using HCS.out.c38); have t9 := ((Blk.new w8 83 #[.slice sa S.length sc, .slice a1 (passF Pa M (Bs.map Sig.v) S).length c1, .slice a2 (lapsF S Pa M S La h).length c2]).later hb9).cell 2 rfl)
              | (go_at_call 15; refine (equal15 _ _ BL (lapsF S Pa M S La h) _ (HLr.out.later (below_trans hb8 hb89)) (HO2.out.laps.later hb89) (by omega) (by omega)).mono ?_; rintro e w10 ⟨r, rfl, hr, hb10⟩))
          go_ret2
          rw [HV.out]
          have hbf : Below w8.heap.size w8 w10 := (hb89.trans (hb10.mono hb89.size))
          have hbr : Below wr.heap.size wr w10 := below_trans hb8 hbf
          refine ⟨Bs.length, v, Nat.le_refl _, HALL.out, HBG.out.later hbr, (KeptG.of_below hbw6).trans ((hkg.mono hbw6.size).trans (KeptG.of_below (hbr.mono (Nat.le_trans hbw6.size hlr)))), .inr (.inr (.inr ⟨HEQ.out, rfl, ?_, own_base (HOG.out.later hbr) hbw6.size⟩))⟩
          exact ⟨r, rfl, by rw [hr]; exact ⟨fun e => ⟨HP.out, e⟩, fun e => e.2⟩⟩
        · have HP := Hid.mk hP
          have HD : Hid (decide (BP = passF Pa M (Bs.map Sig.v) S) = false) := by unfold Hid; simpa using hP
          clear hP
          go_wp2_with (first
              | (refine wpList_load_row rfl 39 (.tmp 3) rfl w.heap.size rfl 39 cs (0, 0) _ HROW.out Ybaf.underlying39 rfl HSZ.out ?_)
              | (go_at_call 10; refine (turnsAfter10 E _ _ _ _ _ S Pa M La Bs cs h _ HEr.out HTr.out HF.out HMr.out HSr.out HCS.out.n HCS.out.c33 HCS.out.c34 HCS.out.c36 hM hBs HSm.out HGd.out HbS.out hh).mono ?_; rintro e w8 ⟨r1, r2, rfl, ho1, ho2, hb8⟩; have HO1 := Hid.mk ho1; have HO2 := Hid.mk ho2; obtain ⟨a1, c1, rfl⟩ := ho1.shape; obtain ⟨a2, c2, rfl⟩ := ho2.shape; have z35 : ∀ o, (w8.alloc o).cell? ⟨w.heap.size, 35, none⟩ = some (.slice bpa BP.length bpc) := (fun o => ((HQr.out.later hb8).alloc o).cell 35 (by simpa using HCS.out.c35)); have z38 : ∀ o, (w8.alloc o).cell? ⟨w.heap.size, 38, none⟩ = some (.slice bla BL.length blc) := (fun o => ((HQr.out.later hb8).alloc o).cell 38 (by simpa using HCS.out.c38)); have hkp8 : KeptG w6.heap.size G w6 w8 := hkg.trans (KeptG.of_below (hb8.mono hlr)); clear ho1 ho2)
              | (go_at_call 13; refine (equal13 _ _ BP (passF Pa M (Bs.map Sig.v) S) _ (HPr.out.later (below_alloc hb8 _)) (HO1.out.ints.later ((Below.refl _ _).alloc (Nat.le_refl _) _)) (by omega) (by have := passF_len Pa M (Bs.map Sig.v) S; have := HF.out.p1; omega)).mono ?_; rw [HD.out]; rintro e w9 ⟨rfl, hb9⟩; have hb89 : Below w8.heap.size w8 w9 := ((Below.refl _ _).alloc (Nat.le_refl _) _).trans (hb9.mono (by simp))))
          go_ret2
          rw [HV.out]
          have hbf : Below w8.heap.size w8 w9 := hb89
          have hbr : Below wr.heap.size wr w9 := below_trans hb8 hbf
          refine ⟨Bs.length, v, Nat.le_refl _, HALL.out, HBG.out.later hbr, (KeptG.of_below hbw6).trans ((hkg.mono hbw6.size).trans (KeptG.of_below (hbr.mono (Nat.le_trans hbw6.size hlr)))), .inr (.inr (.inr ⟨HEQ.out, rfl, ?_, own_base (HOG.out.later hbr) hbw6.size⟩))⟩
          exact ⟨false, rfl, ⟨fun e => (by cases e), fun e => absurd e.1 HP.out⟩⟩
  · have hd : decide (M = missedOf S Pa h view) = false := by simpa using heq
    rw [hd]
    have HEQ := Hid.mk heq
    clear hd heq
    go_wp2
    go_ret2
    rw [HV.out]
    exact ⟨0, .slice none 0 0, Nat.zero_le _, fun j hj => absurd hj (Nat.not_lt_zero _), HG0.out.later hbw5, KeptG.of_below hbw5, .inl ⟨HEQ.out, rfl, rfl, OwnI.nil _ _⟩⟩
end Go.Proofs.YbulkcvteFmt

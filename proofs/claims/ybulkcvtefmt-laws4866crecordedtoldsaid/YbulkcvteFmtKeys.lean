/- The law's keys; bytes.Equal; the law's own Verify. -/
import Derived.Test.YbulkcvteFmtStmt
import Derived.Test.YbulkcvteFmtCanL
namespace Go.Proofs.YbulkcvteFmt
open Go.RowKit
set_option linter.unusedVariables false

/-- 'make([]T, n)', n a variable: the row's cells, and no more. -/
theorem wpList_make_rows {P : Program} (w : World) {ops : Array Oper} {rest : List Oper} {o : Oper} {a : Act} {Q : Exit → Act → World → Prop}
    (hg : o.guard = none) (l c : Operand) (t : TypeId) (hop : o.op = Op.makeSlice t l c)
    (e : TypeId) (i : TypeInfo) (z : Value) (size : Nat) (h1 : P.underlying t = some (.slice e)) (h2 : P.info? e = some i) (h3 : i.zero = some z) (h4 : i.size = size)
    (kl kc : IntKind) (L C : Int) (n : Nat) (hl : a.eval l = .int kl L) (hc : a.eval c = .int kc C) (hL : L = (n : Int)) (hC : C = (n : Int)) (b2 : i.bytes * n ≤ 281474976710656) (b3 : n ≤ maxLen)
    (hK : ∀ w', Blk w' w.heap.size e (madeCells z.cells (n * size)).toList → w'.heap.size = w.heap.size + 1 → Below w.heap.size w w' → wpList P ops Q rest (a.put o.dst (.slice (some ⟨w.heap.size, 0, none⟩) n n)) w') :
    wpList P ops Q (o :: rest) a w := by
  refine wpList_plain hg fun K hK' => ?_
  have b3' : (n : Int) ≤ 9223372036854775807 := by unfold maxLen at b3; omega
  have b2' : (i.bytes : Int) * (n : Int) ≤ 281474976710656 := by have h := Int.ofNat_le.2 b2; rw [Int.natCast_mul] at h; exact h
  have hrun := run_make (P := P) w t e i z h1 h2 h3 kl kc (n : Int) (n : Int) (by omega) (by omega) b2' b3'
  subst hL
  subst hC
  unfold Oper.wp
  simp [execOp, hop, hl, hc, hrun, Result.andThen]
  refine hK' _ _ (hK _ ?_ (size_alloc _ _) ((Below.refl _ _).alloc (Nat.le_refl _) _))
  rw [h4]; exact Blk.new _ _ _


theorem info79 : (Ybaf.prog.info? 79).map (fun i => (i.zero, i.size, i.bytes)) = some (some (.slice none 0 0), 1, 24) := by kernel_rfl

/-- The keys' row in block g: of its 16 cells the first n each hold a slice of the one byte that is its number. -/
structure Keys (w : World) (g n : Nat) : Prop where
  lt : g < w.heap.size
  all : ∀ i, i < n → ∃ b, b < w.heap.size ∧ w.cell? ⟨g, i, none⟩ = some (.slice (some ⟨b, 0, none⟩) 1 1) ∧ w.cell? ⟨b, 0, none⟩ = some (.int .u8 i)
theorem Keys.later {w w' : World} {g n : Nat} (h : Keys w g n) (hb : Below w.heap.size w w') : Keys w' g n :=
  ⟨Nat.lt_of_lt_of_le h.lt hb.size, fun i hi => by
    obtain ⟨b, h1, h2, h3⟩ := h.all i hi
    exact ⟨b, Nat.lt_of_lt_of_le h1 hb.size, by rw [hb.cell h.lt]; exact h2, by rw [hb.cell h1]; exact h3⟩⟩

set_option maxRecDepth 100000 in
set_option maxHeartbeats 4000000 in
theorem mk6 (z : Value) (w : World) : Calls Ybaf.prog 6 #[z, .int .i64 16] w fun e w' => e = .returned (.slice (some ⟨w.heap.size, 0, none⟩) 16 16) ∧ Keys w' w.heap.size 16 ∧ Below w.heap.size w w' := by
  obtain ⟨i0, hi, hz0, hz1, hz2⟩ := info_parts info79
  go_enter Ybaf.func6, Ybaf.ntmps6
  go_wp2_with (at_make; refine wpList_make_rows w rfl _ _ 43 rfl 79 i0 (.slice none 0 0) 1 Ybaf.underlying43 hi hz0 hz1 .i64 .i64 16 16 16 rfl rfl rfl rfl (by rw [hz2]; decide) (by unfold maxLen; decide) ?_; intro w1 hB1 hs1 hb1)
  go_loopw [6, 11] (fun _ i wr => ∃ (k : Nat) (cs : List Value), k ≤ 16 ∧ i = .int .i64 k ∧ Below w.heap.size w wr ∧ Hid (Blk wr w.heap.size 79 cs) ∧ cs.length = 16 ∧ Hid (∀ j, j < k → ∃ b, w.heap.size < b ∧ b < wr.heap.size ∧ cs[j]? = some (.slice (some ⟨b, 0, none⟩) 1 1) ∧ wr.cell? ⟨b, 0, none⟩ = some (.int .u8 j))) (fun _ i _ => 16 - (intOf i).toNat)
  case atStart => exact ⟨0, _, Nat.zero_le _, rfl, hb1, hB1, by simp [madeCells], fun j hj => absurd hj (Nat.not_lt_zero _)⟩
  case round =>
    obtain ⟨k, cs, hk, rfl, hb, HB, hcs, HK⟩ := hrel
    have hl := HB.out.lt
    by_cases hk16 : k < 16
    · obtain ⟨old, hold⟩ : ∃ old, cs[k]? = some old := ⟨_, List.getElem?_eq_getElem (by omega)⟩
      have hc := HB.out.cell k hold
      have hf := HB.out.free k
      clear hold
      go_wp2
      go_roundw
      case rel =>
        refine ⟨k + 1, cs.set k (.slice (some ⟨wr.heap.size, 0, none⟩) 1 1), by omega, by go_num, below_alloc (hb.setCell (p := ⟨w.heap.size, k, none⟩) (Nat.le_refl _) _) _, (HB.out.set k _).alloc _, by simpa using hcs, ?_⟩
        intro j hj
        have hsz : (wr.setCell ⟨w.heap.size, k, none⟩ (.slice (some ⟨wr.heap.size, 0, none⟩) 1 1)).heap.size = wr.heap.size := size_setCell _ _ _
        by_cases hjk : j = k
        · subst hjk
          refine ⟨wr.heap.size, hl, by rw [size_alloc, hsz]; omega, by rw [List.getElem?_set, if_pos rfl, if_pos (by omega)], ?_⟩
          have h7 := (Blk.new (wr.setCell ⟨w.heap.size, j, none⟩ (.slice (some ⟨wr.heap.size, 0, none⟩) 1 1)) 5 #[.int .u8 j]).cell 0 rfl
          rw [hsz] at h7
          exact h7
        · obtain ⟨b, hb1, hb2, hb3, hb4⟩ := HK.out j (by omega)
          refine ⟨b, hb1, by rw [size_alloc, hsz]; omega, by rw [List.getElem?_set, if_neg (by omega)]; exact hb3, ?_⟩
          rw [World.cell?_of_block (w := wr) (a := ⟨b, 0, none⟩) (by show ((wr.setCell ⟨w.heap.size, k, none⟩ (.slice (some ⟨wr.heap.size, 0, none⟩) 1 1)).alloc (.cells #[.int .u8 k] 5)).heap[b]? = wr.heap[b]?; rw [Below.heap_alloc _ _ b (by rw [hsz]; exact hb2), Below.heap_setCell _ _ _ _ (by show b ≠ w.heap.size; omega)])]
          exact hb4
      case measure => simp [intOf]; omega
    · obtain rfl : k = 16 := by omega
      go_wp2
      go_ret
      refine ⟨rfl, ⟨hl, fun j hj => ?_⟩, hb⟩
      obtain ⟨b, hb1, hb2, hb3, hb4⟩ := HK.out j hj
      exact ⟨b, hb2, HB.out.cell j hb3, hb4⟩

/-- The value s is a slice that reads as the bytes xs. -/
def Bys (w : World) (s : Value) (xs : List Int) : Prop := ∃ b o c, s = .slice (some ⟨b, o, none⟩) xs.length c ∧ b < w.heap.size ∧ ∀ i, i < xs.length → w.cell? ⟨b, o + i, none⟩ = some (.int .u8 (xs.getD i 0))
theorem Bys.later {w w' : World} {s : Value} {xs : List Int} (h : Bys w s xs) (hb : Below w.heap.size w w') : Bys w' s xs := by
  obtain ⟨b, o, c, e, h1, h2⟩ := h
  exact ⟨b, o, c, e, Nat.lt_of_lt_of_le h1 hb.size, fun i hi => by rw [hb.cell h1]; exact h2 i hi⟩
theorem Bys.of_own {w : World} {B : Nat} {v : Value} {xs : List Int} (h : w.ownsRow B 5 1 v xs.length (xs.map (Value.int .u8))) (h0 : 0 < xs.length) : Bys w v xs := by
  obtain ⟨hl, ⟨rfl, hn⟩ | ⟨g, cap, cur, rfl, hg, hh, hc, hm, hsz, ht⟩⟩ := h
  · omega
  · refine ⟨g, 0, cap, rfl, lt_of_block hh, fun i hi => ?_⟩
    have := take_get ht (i := i) (v := .int .u8 (xs.getD i 0)) (by simp [List.getD, hi])
    simp [World.cell?, hh, this]

set_option maxRecDepth 100000 in
set_option maxHeartbeats 4000000 in
theorem bytesEqual9 (s t : Value) (xs : List Int) (w : World) (hs : Bys w s xs) (ht : Bys w t xs) : Calls Ybaf.prog 9 #[s, t] w fun e w' => e = .returned (.bool true) ∧ w' = w := by
  obtain ⟨b, o, c, rfl, _, h1⟩ := hs
  obtain ⟨b2, o2, c2, rfl, _, h2⟩ := ht
  have e1 := run_convert_bytes_arg (P := Ybaf.prog) w 23 5 Ybaf.underlying23 Ybaf.underlying5 b o xs.length c xs rfl h1 9 Ybaf.underlying9
  have e2 := run_convert_bytes_arg (P := Ybaf.prog) w 23 5 Ybaf.underlying23 Ybaf.underlying5 b2 o2 xs.length c2 xs rfl h2 9 Ybaf.underlying9
  clear h1 h2
  go_enter Ybaf.func9, Ybaf.ntmps9
  go_wp2
  go_ret
  exact ⟨by simp, rfl⟩

/-- append of one integer that a literal has just laid: its run. -/
theorem run_app26 (w0 : World) (ty : TypeId) (B : Nat) (v : Value) (L : List Int) (hown : OwnI w0 B v L) (y : Int) (hn : L.length ≤ 1048576) (hB : B ≤ w0.heap.size) :
    ∃ v' w', (Builtin.append_ #[26, 26] ty #[v, .slice (some ⟨w0.heap.size, 0, none⟩) 1 1]).run Ybaf.prog (w0.alloc (.cells #[.int .i64 y] 3)) = .ok v' w' ∧ OwnI w' B v' (L ++ [y]) ∧ Below B w0 w' ∧ ∀ j, j < w0.heap.size → v.ownBlock ≠ some j → w'.heap[j]? = w0.heap[j]? := by
  obtain ⟨i, hi, hz0, hz1, hz2⟩ := info_parts info3
  obtain ⟨v', w', hr, h2, h3, h4⟩ := run_append_own (P := Ybaf.prog) (w0.alloc (.cells #[.int .i64 y] 3)) B 26 ty 3 i (.int .i64 0) 1 8 Ybaf.underlying26 hi hz0 hz1 hz2 rfl (by decide) v L.length _ (World.ownsRow.alloc hown _) ⟨w0.heap.size, 0, none⟩ 1 1 [.int .i64 y] rfl (cell_one_new _ _ _) (fun u hu => by simp at hu; subst hu; rfl) (by unfold maxLen; omega) (by omega) (by simp; omega)
  refine ⟨v', w', hr, ?_, ?_, fun j hj hne => ?_⟩
  · unfold OwnI
    simpa using h2
  · exact ((Below.refl B w0).alloc hB _).grown h3 (by simp; omega) (fun k hk => (hown.lt k hk).1)
  · rw [h3.block j (by simp; omega) (fun e => hne e.symm)]
    exact ((Below.refl w0.heap.size w0).alloc (Nat.le_refl _) _).block j hj

theorem exec_append {P : Program} {o : Oper} {a : Act} {w w' : World} {sl x : Operand} {t : TypeId} {v xv v' : Value} (ho : o.op = .call { callee := .builtin .append, args := #[sl, x], argTypes := #[t, t] }) (hs : a.eval sl = v) (hx : a.eval x = xv) (hr : (Builtin.append_ #[t, t] o.type #[v, xv]).run P w = .ok v' w') : (execOp a.eval o).run P w = .ok (.value v') w' := by
  unfold execOp
  simp only [ho, resolve, invoke, builtin, Sem.run_bind, Sem.run_pure, Result.andThen_ok, List.map_toArray, List.map_cons, List.map_nil, hs, hx, hr]

/-- What a call of the law's Verify leaves: below B all stands but G. -/
structure KeptG (B G : Nat) (w w' : World) : Prop where
  os : w'.os = w.os
  tape : w'.tape = w.tape
  output : w'.output = w.output
  size : w.heap.size ≤ w'.heap.size
  block : ∀ k, k < B → k ≠ G → w'.heap[k]? = w.heap[k]?
theorem KeptG.of_below {B G : Nat} {w w' : World} (h : Below B w w') : KeptG B G w w' := ⟨h.os, h.tape, h.output, h.size, fun k hk _ => h.block k hk⟩
theorem KeptG.trans {B G : Nat} {a b c : World} (h : KeptG B G a b) (k : KeptG B G b c) : KeptG B G a c := ⟨k.os.trans h.os, k.tape.trans h.tape, k.output.trans h.output, Nat.le_trans h.size k.size, fun i hi hne => (k.block i hi hne).trans (h.block i hi hne)⟩
theorem KeptG.cell {B G : Nat} {w w' : World} (h : KeptG B G w w') {p : Addr} (hp : p.block < B) (hne : p.block ≠ G) : w'.cell? p = w.cell? p := World.cell?_of_block (w := w) (h.block p.block hp hne)
theorem KeptG.setCell {B G : Nat} {a w : World} (h : KeptG B G a w) (i : Nat) (u : Value) : KeptG B G a (w.setCell ⟨G, i, none⟩ u) :=
  h.trans ⟨rfl, rfl, rfl, by simp [World.setCell], fun k _ hk => Below.heap_setCell _ _ _ _ hk⟩

set_option maxRecDepth 100000 in
set_option maxHeartbeats 4000000 in
theorem verify8 (pub msg sig want v : Value) (X : List Int) (L : List Int) (pb sb M G Wt B : Nat) (k x : Nat) (w : World) (hpub : pub = .slice (some ⟨pb, 0, none⟩) 1 1) (hpk : w.cell? ⟨pb, 0, none⟩ = some (.int .u8 k)) (hsig : sig = .slice (some ⟨sb, 0, none⟩) 1 1) (hsx : w.cell? ⟨sb, 0, none⟩ = some (.int .u8 x))
    (hM : Blk w M 4 [.bool true]) (hG : Blk w G 26 [v]) (hO : OwnI w B v L) (hW : w.cell? ⟨Wt, 0, none⟩ = some want) (hwant : Bys w want X) (hmsg : Bys w msg X) (hGB : G < B) (hpB : pb < B) (hk : k < 256) (hx : x < 256) (hL : L.length ≤ 1048576) (hB : B ≤ w.heap.size) (hWG : Wt ≠ G) (hlt : sb < B ∧ Wt < B ∧ M < B) (hne : sb ≠ G ∧ M ≠ G) (hbw : ∀ W, KeptG B G w W → Bys W want X ∧ Bys W msg X) :
    Calls Ybaf.prog 8 #[pub, msg, sig, .pointer (some ⟨M, 0, none⟩), .pointer (some ⟨G, 0, none⟩), .pointer (some ⟨Wt, 0, none⟩)] w fun e w' => e = .returned (.bool (bits .and .u8 (x : Int) 1 == 0)) ∧ ∃ v', Blk w' G 26 [v'] ∧ OwnI w' B v' (L ++ [(k : Int)]) ∧ KeptG B G w w' ∧ ∀ j, j < w.heap.size → j ≠ G → v.ownBlock ≠ some j → w'.heap[j]? = w.heap[j]? := by
  subst hpub
  subst hsig
  obtain ⟨va, vc, rfl⟩ := hO.shape
  have HO := Hid.mk hO
  have HG := Hid.mk hG
  have HBW := Hid.mk hbw
  have g0 := hG.cell 0 rfl
  have gf := hG.free 0
  obtain ⟨hl1, hl2, hl3⟩ := hlt
  obtain ⟨hn1, hn2⟩ := hne
  have hpb : pb < w.heap.size := by omega
  clear hO hG hbw hwant hmsg
  go_enter Ybaf.func8, Ybaf.ntmps8
  go_wp2_with fail
  refine wp_region_last (fun W => W.cell? ⟨G, 0, none⟩ = some (.slice va L.length vc) ∧ W.cell? ⟨pb, 0, none⟩ = some (.int .u8 k)) 7 [(0, true), (1, true), (2, true), (3, true), (4, true), (5, false), (6, false)] (by kernel_rfl) (by kernel_rfl) (by kernel_rfl) rfl ⟨g0, hpk⟩ ?_
  refine stepR (some 18) (.slice va L.length vc) rfl rfl rfl (fun W hW => by obtain ⟨c1, c2⟩ := hW; go_simp) ?_
  refine stepR (some 19) (.slice (some ⟨pb, 0, none⟩) 1 1) rfl rfl rfl (fun W hW => by go_simp) ?_
  refine stepR (some 20) (.pointer (some ⟨pb, 0, none⟩)) rfl rfl rfl (fun W hW => by go_simp) ?_
  refine stepR (some 21) (.int .u8 k) rfl rfl rfl (fun W hW => by obtain ⟨c1, c2⟩ := hW; go_simp) ?_
  refine stepR (some 22) (.int .i64 k) rfl rfl rfl (fun W hW => by go_simp; try (simp only [IntKind.wrap_i64]; omega)) ?_
  go_simp
  have HO2 : Hid (OwnI w.drew B (.slice va L.length vc) L) := HO.out.later ((Below.refl _ _).drew)
  obtain ⟨v', w5, hrun, hO5, hb5, hf5⟩ := run_app26 w.drew 26 B (.slice va L.length vc) L HO2.out k hL hB
  have HO5 := Hid.mk hO5
  have HF5 := Hid.mk hf5
  clear hf5
  obtain ⟨xa, xc, rfl⟩ := hO5.shape
  have hGl := HG.out.lt
  refine stepO (some 23) (w.drew.alloc (.cells #[.int .i64 k] 3)) (n := .value (.slice (some ⟨w.heap.size, 0, none⟩) 1 1)) (u := .slice (some ⟨w.heap.size, 0, none⟩) 1 1) rfl rfl rfl (by go_simp) (.inl rfl) ⟨?c1, ?c2⟩ ?_
  case c1 => rw [((Below.refl w.drew.heap.size w.drew).alloc (Nat.le_refl _) _).cell (by exact hGl)]; exact g0
  case c2 => rw [((Below.refl w.drew.heap.size w.drew).alloc (Nat.le_refl _) _).cell (by exact hpb)]; exact hpk
  have hkb : KeptG B G w w5 := KeptG.of_below ((Below.refl _ _).drew.trans hb5)
  have B5 : Blk w5 G 26 [.slice va L.length vc] := (show Blk w.drew G 26 _ from HG.out).below hb5 hGB
  refine stepO (some 24) w5 (n := .value (.slice xa (L ++ [(k : Int)]).length xc)) (u := .slice xa (L ++ [(k : Int)]).length xc) rfl rfl rfl (exec_append rfl rfl rfl hrun) (.inl rfl) ⟨B5.cell 0 rfl, ?c3⟩ ?_
  case c3 => rw [hb5.cell (p := ⟨pb, 0, none⟩) hpB]; exact hpk
  refine chain_nil ?_
  go_simp
  have y0 := B5.cell 0 rfl
  have yf := B5.free 0
  refine lastO none (w5.setCell ⟨G, 0, none⟩ (.slice xa (L.length + 1) xc)) (n := .skip) (u := undef) rfl rfl rfl (by go_simp) (.inr ⟨rfl, rfl⟩) ?_
  have hkb2 : KeptG B G w (w5.setCell ⟨G, 0, none⟩ (.slice xa (L.length + 1) xc)) := hkb.setCell 0 _
  have HB6 : Hid (Blk (w5.setCell ⟨G, 0, none⟩ (.slice xa (L.length + 1) xc)) G 26 [.slice xa (L.length + 1) xc]) := B5.set 0 _
  have HO6 : Hid (OwnI (w5.setCell ⟨G, 0, none⟩ (.slice xa (L.length + 1) xc)) B (.slice xa (L.length + 1) xc) (L ++ [(k : Int)])) := by
    have h7 := ownsRow_setCell_below (a := ⟨G, 0, none⟩) HO5.out hGB (.slice xa (L.length + 1) xc)
    unfold OwnI Hid
    simpa using h7
  have HF6 : Hid (∀ j, j < w.heap.size → j ≠ G → (Value.slice va L.length vc).ownBlock ≠ some j → (w5.setCell ⟨G, 0, none⟩ (.slice xa (L.length + 1) xc)).heap[j]? = w.heap[j]?) := fun j hj hne hro => by
    rw [Below.heap_setCell _ _ _ _ hne]
    exact HF5.out j hj hro
  clear HF5
  generalize w5.setCell ⟨G, 0, none⟩ (.slice xa (L.length + 1) xc) = w6 at *
  obtain ⟨hbW, hbM⟩ := HBW.out w6 hkb2
  have HbW := Hid.mk hbW
  have HbM := Hid.mk hbM
  have c5 : w6.cell? ⟨Wt, 0, none⟩ = some want := by rw [hkb2.cell (p := ⟨Wt, 0, none⟩) hl2 hWG]; exact hW
  have c6 : w6.cell? ⟨sb, 0, none⟩ = some (.int .u8 x) := by rw [hkb2.cell (p := ⟨sb, 0, none⟩) hl1 hn1]; exact hsx
  obtain ⟨wb, wo, wc, rfl, _, _⟩ := hbW
  clear y0 yf hbM
  go_wp2_with (go_at_call 9; refine (bytesEqual9 _ _ X _ HbM.out HbW.out).mono ?_; rintro e w7 ⟨rfl, rfl⟩)
  go_ret
  exact ⟨rfl, _, HB6.out, HO6.out, hkb2, HF6.out⟩
end Go.Proofs.YbulkcvteFmt

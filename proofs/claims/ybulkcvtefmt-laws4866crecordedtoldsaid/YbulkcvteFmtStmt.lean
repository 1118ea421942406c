/- The statement that a commit signs. -/
import Derived.Test.YbulkcvteFmtOwn
import Derived.Lib.AppendStr
import Derived.Laws.IdiomStrings
namespace Go.Proofs.YbulkcvteFmt
open Go.RowKit
set_option linter.unusedVariables false

theorem info5 : (Ybaf.prog.info? 5).map (fun i => (i.zero, i.size, i.bytes)) = some (some (.int .u8 0), 1, 1) := by kernel_rfl

/-- append(v, s...), a string, to a row of bytes of the call's own. -/
theorem app_str {w : World} {ops : Array Oper} {rest : List Oper} {o : Oper} {a : Act} {Q : Exit → Act → World → Prop} (hgd : o.guard = none) (sl x : Operand) (ho : o.op = .call { callee := .builtin .append, args := #[sl, x], argTypes := #[23, 9] })
    (B n : Nat) (v : Value) (xs : List Value) (hs : a.eval sl = v) (h : w.ownsRow B 5 1 v n xs) (s : ByteArray) (hx : a.eval x = .string s) (hn : n + s.size ≤ 1048576) (hB : B ≤ w.heap.size)
    (hK : ∀ v' w', w'.ownsRow B 5 1 v' (n + s.size) (xs ++ Lib.strCells s) → Below B w w' → wpList Ybaf.prog ops Q rest (a.put o.dst v') w') : wpList Ybaf.prog ops Q (o :: rest) a w := by
  refine wpList_plain hgd fun K hK' => ?_
  obtain ⟨i, hi, hz0, hz1, hz2⟩ := info_parts info5
  obtain ⟨v', w', hr, h2, h3, h4⟩ := Lib.run_append_own_string (P := Ybaf.prog) w B 23 9 o.type 5 i Ybaf.underlying23 Ybaf.underlying9 hi hz0 hz1 hz2 v n xs h s (by unfold maxLen; omega) (by omega) hB
  unfold Oper.wp execOp
  simp only [ho, resolve, invoke, builtin, Sem.run_bind, Sem.run_pure, Result.andThen_ok, List.map_toArray, List.map_cons, List.map_nil, hs, hx, hr]
  exact hK' _ _ (hK v' w' h2 ((Below.refl B w).grown h3 hB (fun k hk => (h.lt k hk).1)))

/-- append(v, x...), the cells of a block that stands. -/
theorem app_sl {w : World} {ops : Array Oper} {rest : List Oper} {o : Oper} {a : Act} {Q : Exit → Act → World → Prop} (hgd : o.guard = none) (sl x : Operand) (ho : o.op = .call { callee := .builtin .append, args := #[sl, x], argTypes := #[23, 23] })
    (B n : Nat) (v : Value) (xs : List Value) (hs : a.eval sl = v) (h : w.ownsRow B 5 1 v n xs) (g m c : Nat) (t : TypeId) (news : List Value) (hx : a.eval x = .slice (some ⟨g, 0, none⟩) m c) (hm : news.length = m) (hg : Blk w g t news) (h1 : ∀ u ∈ news, u.oneCell' = true) (hn : n + m ≤ 1048576) (hB : B ≤ w.heap.size)
    (hK : ∀ v' w', w'.ownsRow B 5 1 v' (n + m) (xs ++ news) → Below B w w' → wpList Ybaf.prog ops Q rest (a.put o.dst v') w') : wpList Ybaf.prog ops Q (o :: rest) a w := by
  obtain ⟨i, hi, hz0, hz1, hz2⟩ := info_parts info5
  refine wpList_append_own _ hgd sl x 23 ho B 5 i (.int .u8 0) 1 1 Ybaf.underlying23 hi hz0 hz1 hz2 rfl (by decide) v n xs hs h ⟨g, 0, none⟩ m c news hx (by omega) ?_ h1 (by unfold maxLen; omega) (by omega) hB ?_
  · intro j u hj
    have hadd : (⟨g, 0, none⟩ : Addr).add j = ⟨g, j, none⟩ := by unfold Addr.add; split <;> simp_all
    rw [hadd]
    exact hg.cell j hj
  · intro v' w' h2 h3 _
    exact hK v' w' h2 ((Below.refl B w).grown h3 hB (fun k hk => (h.lt k hk).1))

/-- The eight, the four bytes of a number, the highest first. -/
def be8 (h : Nat) : List Value := [.int .u8 ((h : Int) / 72057594037927936), .int .u8 ((h : Int) / 281474976710656 % 256), .int .u8 ((h : Int) / 1099511627776 % 256), .int .u8 ((h : Int) / 4294967296 % 256), .int .u8 ((h : Int) / 16777216 % 256), .int .u8 ((h : Int) / 65536 % 256), .int .u8 ((h : Int) / 256 % 256), .int .u8 ((h : Int) % 256)]
def be4 (h : Nat) : List Value := [.int .u8 ((h : Int) / 16777216), .int .u8 ((h : Int) / 65536 % 256), .int .u8 ((h : Int) / 256 % 256), .int .u8 ((h : Int) % 256)]
theorem blk_new2 (w : World) (o : Obj) (t : TypeId) (cs : Array Value) : Blk ((w.alloc o).alloc (.cells cs t)) (w.heap.size + 1) t cs.toList := by simpa using Blk.new (w.alloc o) t cs

set_option maxRecDepth 100000 in
set_option maxHeartbeats 4000000 in
theorem app64 (z : Value) (v : Value) (B n : Nat) (xs : List Value) (h : Nat) (w : World) (hz : z = .agg #[]) (hown : w.ownsRow B 5 1 v n xs) (hn : n ≤ 1024) (hB : B ≤ w.heap.size) (hh : h < 18446744073709551616) :
    Calls Ybaf.prog 26 #[z, v, .int .u64 h] w fun e w' => ∃ v', e = .returned v' ∧ w'.ownsRow B 5 1 v' (n + 8) (xs ++ be8 h) ∧ Below B w w' := by
  subst hz
  have HO := Hid.mk hown
  clear hown
  go_enter Ybaf.func26, Ybaf.ntmps26
  go_wp2_with (at_builtin; refine app_sl rfl _ _ rfl B n v xs rfl ((HO.out.alloc _).alloc _) (w.heap.size + 1) 8 8 5 (be8 h) rfl rfl (blk_new2 w _ 5 (be8 h).toArray) (fun u hu => by simp [be8] at hu; rcases hu with rfl | rfl | rfl | rfl | rfl | rfl | rfl | rfl <;> rfl) (by omega) (by simp; omega) ?_; intro v' w' ho' hb')
  go_ret
  exact ⟨_, rfl, ho', (((Below.refl B w).alloc hB _).alloc (by simp; omega) _).trans hb'⟩
set_option maxRecDepth 100000 in
set_option maxHeartbeats 4000000 in
theorem app32 (z : Value) (v : Value) (B n : Nat) (xs : List Value) (h : Nat) (w : World) (hz : z = .agg #[]) (hown : w.ownsRow B 5 1 v n xs) (hn : n ≤ 1024) (hB : B ≤ w.heap.size) (hh : h < 4294967296) :
    Calls Ybaf.prog 27 #[z, v, .int .u32 h] w fun e w' => ∃ v', e = .returned v' ∧ w'.ownsRow B 5 1 v' (n + 4) (xs ++ be4 h) ∧ Below B w w' := by
  subst hz
  have HO := Hid.mk hown
  clear hown
  go_enter Ybaf.func27, Ybaf.ntmps27
  go_wp2_with (at_builtin; refine app_sl rfl _ _ rfl B n v xs rfl ((HO.out.alloc _).alloc _) (w.heap.size + 1) 4 4 5 (be4 h) rfl rfl (blk_new2 w _ 5 (be4 h).toArray) (fun u hu => by simp [be4] at hu; rcases hu with rfl | rfl | rfl | rfl <;> rfl) (by omega) (by simp; omega) ?_; intro v' w' ho' hb')
  go_ret
  exact ⟨_, rfl, ho', (((Below.refl B w).alloc hB _).alloc (by simp; omega) _).trans hb'⟩

theorem size35 : (Ybaf.prog.info? 35).map (·.size) = some 32 := by kernel_rfl
/-- The tag that opens a commit's statement. -/
def tagB : ByteArray := ⟨#[115, 121, 110, 111, 100, 45, 99, 111, 109, 109, 105, 116, 45, 118, 49]⟩
/-- The bytes that a commit signs. -/
def stmt (ch : List Value) (h v : Nat) (pa : List Value) : List Value := Lib.strCells tagB ++ ch ++ be8 h ++ be4 v ++ pa
theorem blk0 (w : World) (o o' : Obj) (t : TypeId) (cs : Array Value) (ho : o = .cells cs t) : Blk ((w.alloc o).alloc o') w.heap.size t cs.toList := by subst ho; exact (Blk.new w t cs).alloc _
theorem own_make (w : World) : ((w.alloc (.cells (madeCells (Value.int .u8 0).cells 91) 5))).ownsRow w.heap.size 5 1 (.slice (some ⟨w.heap.size, 0, none⟩) 0 91) 0 [] :=
  ⟨rfl, .inr ⟨w.heap.size, 91, _, rfl, Nat.le_refl _, heap_alloc_new w _, by decide, by unfold maxLen; decide, by simp [madeCells], rfl⟩⟩

/-- 'make([]byte, 0, 91)'. -/
theorem make91 {w : World} {ops : Array Oper} {rest : List Oper} {o : Oper} {a : Act} {Q : Exit → Act → World → Prop} (hg : o.guard = none) (l c : Operand) (hop : o.op = Op.makeSlice 23 l c) (hl : a.eval l = .int .i64 0) (hc : a.eval c = .int .i64 91)
    (hK : ∀ v w', v = .slice (some ⟨w.heap.size, 0, none⟩) 0 91 → w'.ownsRow w.heap.size 5 1 v 0 [] → Below w.heap.size w w' → wpList Ybaf.prog ops Q rest (a.put o.dst v) w') : wpList Ybaf.prog ops Q (o :: rest) a w := by
  obtain ⟨i, hi, hz0, hz1, hz2⟩ := info_parts info5
  refine wpList_plain hg fun K hK' => ?_
  have hrun := run_make (P := Ybaf.prog) w 23 5 i (.int .u8 0) Ybaf.underlying23 hi hz0 .i64 .i64 0 91 (by decide) (by decide) (by rw [hz2]; decide) (by decide)
  unfold Oper.wp
  simp [execOp, hop, hl, hc, hrun, Result.andThen]
  refine hK' _ _ (hK _ _ rfl ?_ ((Below.refl _ _).alloc (Nat.le_refl _) _))
  simpa [hz1] using own_make w

set_option maxRecDepth 100000 in
set_option maxHeartbeats 8000000 in
theorem statement18 (ch pa : Array Value) (h v : Nat) (w : World) (hc : ch.size = 32) (hp : pa.size = 32) (hc1 : ∀ u ∈ ch.toList, u.oneCell' = true) (hp1 : ∀ u ∈ pa.toList, u.oneCell' = true) (hh : h < 18446744073709551616) (hv : v < 4294967296)
    (htag : ∀ W, Below w.heap.size w W → W.cell? ⟨0, 13, none⟩ = some (.string tagB)) :
    Calls Ybaf.prog 18 #[.int .u8 3, .agg ch, .int .u64 h, .int .u32 v, .agg pa] w fun e w' => ∃ r, e = .returned r ∧ w'.ownsRow w.heap.size 5 1 r 91 (stmt ch.toList h v pa.toList) ∧ Below w.heap.size w w' := by
  have ht0 : ∀ o o', ((w.alloc o).alloc o').cell? ⟨0, 13, none⟩ = some (.string tagB) := fun o o' => htag _ (below_alloc ((Below.refl _ _).alloc (Nat.le_refl _) _) _)
  have hsz : tagB.size = 15 := rfl
  clear htag
  go_enter Ybaf.func18, Ybaf.ntmps18
  have hb2 : Below w.heap.size w ((w.alloc (.cells ch 35)).alloc (.cells pa 35)) := below_alloc ((Below.refl _ _).alloc (Nat.le_refl _) _) _
  have B0 : Blk ((w.alloc (.cells ch 35)).alloc (.cells pa 35)) w.heap.size 35 ch.toList := blk0 w _ _ 35 ch rfl
  have B1 : Blk ((w.alloc (.cells ch 35)).alloc (.cells pa 35)) (w.heap.size + 1) 35 pa.toList := blk_new2 w _ 35 pa
  have hs0 : ((w.alloc (.cells ch 35)).alloc (.cells pa 35)).heap.size = w.heap.size + 2 := by simp
  have HB2 := Hid.mk hb2
  have HB0 := Hid.mk B0
  have HB1 := Hid.mk B1
  have HS0 := Hid.mk hs0
  clear hb2 B0 B1 hs0
  go_wp2_with (first
    | (at_make; refine make91 rfl _ _ rfl rfl rfl ?_; intro x2 w2 hx2 ho2 hb2; rw [HS0.out] at ho2 hb2; clear hx2; have hs2 : w.heap.size + 2 ≤ w2.heap.size := (by have := hb2.size; rw [HS0.out] at this; exact this))
    | (at_builtin; refine app_str rfl _ _ rfl (w.heap.size + 2) 0 x2 [] rfl ho2 tagB rfl (by rw [hsz]; decide) hs2 ?_; intro x3 w3 ho3 hb3; rw [hsz] at ho3; have hs3 := hb3.size; have hb23 := hb2.trans hb3; clear ho2)
    | (at_builtin; refine app_sl rfl _ _ rfl (w.heap.size + 2) 15 x3 (Lib.strCells tagB) rfl ho3 w.heap.size 32 32 35 ch.toList rfl (by simpa using hc) ((HB0.out.below hb2 (by omega)).below hb3 (by omega)) hc1 (by decide) (by omega) ?_; intro x4 w4 ho4 hb4; have hs4 := hb4.size; have hb24 := hb23.trans hb4; clear ho3)
    | (go_at_call 26; refine (app64 _ x4 (w.heap.size + 2) 47 _ h _ rfl ho4 (by decide) (by omega) hh).mono ?_; rintro e w5 ⟨x5, rfl, ho5, hb5⟩; have hs5 := hb5.size; have hb25 := hb24.trans hb5; clear ho4)
    | (go_at_call 27; refine (app32 _ x5 (w.heap.size + 2) 55 _ v _ rfl ho5 (by decide) (by omega) hv).mono ?_; rintro e w6 ⟨x6, rfl, ho6, hb6⟩; have hs6 := hb6.size; have hb26 := hb25.trans hb6; clear ho5)
    | (at_builtin; refine app_sl rfl _ _ rfl (w.heap.size + 2) 59 x6 _ rfl ho6 (w.heap.size + 1) 32 32 35 pa.toList rfl (by simpa using hp) (HB1.out.below hb26 (by omega)) hp1 (by decide) (by omega) ?_; intro x7 w7 ho7 hb7; have hb27 := hb26.trans hb7; clear ho6))
  go_ret
  refine ⟨_, rfl, ?_, HB2.out.trans (hb27.mono (by omega))⟩
  obtain ⟨h1, h2 | ⟨g, cap, cur, he, hg, hr⟩⟩ := ho7
  · exact absurd h2.2 (by decide)
  · refine ⟨by simpa [stmt] using h1, .inr ⟨g, cap, cur, he, by omega, ?_⟩⟩
    simpa [stmt] using hr

set_option maxRecDepth 100000 in
set_option maxHeartbeats 8000000 in
theorem commit7 (ch pa : Array Value) (h v : Nat) (w : World) (hc : ch.size = 32) (hp : pa.size = 32) (hc1 : ∀ u ∈ ch.toList, u.oneCell' = true) (hp1 : ∀ u ∈ pa.toList, u.oneCell' = true) (hh : h < 18446744073709551616) (hv : v < 4294967296)
    (htag : ∀ W, Below w.heap.size w W → W.cell? ⟨0, 13, none⟩ = some (.string tagB)) :
    Calls Ybaf.prog 7 #[.agg ch, .int .u64 h, .int .u32 v, .agg pa] w fun e w' => ∃ r, e = .returned r ∧ w'.ownsRow w.heap.size 5 1 r 91 (stmt ch.toList h v pa.toList) ∧ Below w.heap.size w w' := by
  have HT := Hid.mk htag
  have hb2 : Below w.heap.size w ((w.alloc (.cells ch 35)).alloc (.cells pa 35)) := below_alloc ((Below.refl _ _).alloc (Nat.le_refl _) _) _
  have B0 : ((w.alloc (.cells ch 35)).alloc (.cells pa 35)).heap[w.heap.size]? = some (.cells ch 35 (0, 0)) := by have := blk0 w (.cells ch 35) (.cells pa 35) 35 ch rfl; unfold Blk at this; simpa using this
  have B1 : ((w.alloc (.cells ch 35)).alloc (.cells pa 35)).heap[w.heap.size + 1]? = some (.cells pa 35 (0, 0)) := by have := blk_new2 w (.cells ch 35) 35 pa; unfold Blk at this; simpa using this
  clear htag
  have HB2 := Hid.mk hb2
  have HB0 := Hid.mk B0
  have HB1 := Hid.mk B1
  have hsi : (Ybaf.prog.info? 35).map (·.size) = some ch.size := by rw [hc]; exact size35
  have hsj : (Ybaf.prog.info? 35).map (·.size) = some pa.size := by rw [hp]; exact size35
  have HSI := Hid.mk hsi
  have HSJ := Hid.mk hsj
  clear hb2 B0 B1 hsi hsj
  go_enter Ybaf.func7, Ybaf.ntmps7
  go_wp2_with (first
    | (refine wpList_load_row rfl 35 (.tmp 4) rfl w.heap.size rfl 35 ch (0, 0) _ HB0.out Ybaf.underlying35 rfl HSI.out ?_)
    | (refine wpList_load_row rfl 35 (.tmp 7) rfl (w.heap.size + 1) rfl 35 pa (0, 0) _ HB1.out Ybaf.underlying35 rfl HSJ.out ?_)
    | (go_at_call 18; refine (statement18 ch pa h v _ hc hp hc1 hp1 hh hv (fun W hW => HT.out W (below_trans HB2.out hW))).mono ?_; rintro e w3 ⟨r, rfl, ho, hb⟩))
  go_ret
  refine ⟨_, rfl, ?_, below_trans HB2.out hb⟩
  obtain ⟨h1, h2 | ⟨g, cap, cur, he, hg, hr⟩⟩ := ho
  · exact absurd h2.2 (by decide)
  · exact ⟨h1, .inr ⟨g, cap, cur, he, Nat.le_trans HB2.out.size hg, hr⟩⟩
end Go.Proofs.YbulkcvteFmt

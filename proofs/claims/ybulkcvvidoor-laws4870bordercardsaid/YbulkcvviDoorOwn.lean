/- A row of bytes that the call owns, a mark behind its end or none: what '[]byte(s)' makes, appended to. -/
import Derived.Test.YbulkcvviDoorItoa
import Derived.Lib.AppendStr
import Derived.Laws.IdiomStrings
namespace Go.Proofs.YbulkcvviDoor
open Go.RowKit

/-- The value v, n bytes long, owns the cells xs; what is frozen of its row lies behind its end. -/
def OwnG (w : World) (B : Nat) (v : Value) (n : Nat) (xs : List Value) : Prop :=
  xs.length = n ∧ ∃ g cap cur fz, v = .slice (some ⟨g, 0, none⟩) n cap ∧ B ≤ g ∧ w.heap[g]? = some (.cells cur 5 fz) ∧ (fz = (0, 0) ∨ cur.size ≤ fz.1) ∧ n ≤ cap ∧ cap ≤ maxLen ∧ cur.size = cap ∧ cur.toList.take n = xs

theorem free_g {w : World} {g : Nat} {cur : Array Value} {fz : Nat × Nat} (hg : w.heap[g]? = some (.cells cur 5 fz)) (hfz : fz = (0, 0) ∨ cur.size ≤ fz.1) (i : Nat) (hi : i < cur.size) : w.frozen? ⟨g, i, none⟩ = false := by
  obtain ⟨lo, hh⟩ := fz
  simp only [World.frozen?, hg, Bool.and_eq_false_iff, decide_eq_false_iff_not]
  rcases hfz with h | h
  · simp at h; right; omega
  · simp at h; left; omega

theorem storeCells_g (P : Program) (g o : Nat) (fz : Nat × Nat) : ∀ (vs : List Value) (i : Nat) (cur : Array Value) (w : World), w.heap[g]? = some (.cells cur 5 fz) → (fz = (0, 0) ∨ cur.size ≤ fz.1) → o + i + vs.length ≤ cur.size → (∀ v ∈ vs, v.oneCell' = true) →
    (storeCells ⟨g, o, none⟩ vs i).run P w = .ok () (w.setRow g (cur.toList.take (o + i) ++ vs ++ cur.toList.drop (o + i + vs.length)).toArray)
  | [], i, cur, w, hg, _, _, _ => by
    simp only [storeCells, List.append_nil, List.length_nil, Nat.add_zero, List.take_append_drop, Array.toArray_toList]
    rw [setRow_self w g cur 5 fz hg]
    rfl
  | v :: rest, i, cur, w, hg, hfz, hl, h1 => by
    have hi : o + i < cur.size := by simp at hl; omega
    have hadd : (⟨g, o, none⟩ : Addr).add i = ⟨g, o + i, none⟩ := by unfold Addr.add; split <;> simp_all
    have hcell : w.cell? ⟨g, o + i, none⟩ = some cur[o + i] := by simp [World.cell?, hg, hi]
    have hst : (store ((⟨g, o, none⟩ : Addr).add i) v).run P w = .ok () (w.setRow g (cur.setIfInBounds (o + i) v)) := by
      rw [hadd, run_store P w _ v _ (h1 v (by simp)), hcell]
      simp [free_g hg hfz (o + i) hi, setCell_eq_setRow w g (o + i) cur 5 fz v hg]
    have ih := storeCells_g P g o fz rest (i + 1) (cur.setIfInBounds (o + i) v) (w.setRow g (cur.setIfInBounds (o + i) v)) (setRow_heap w g cur _ 5 _ hg) (by simpa using hfz) (by simp at hl ⊢; omega) (fun x hx => h1 x (by simp [hx]))
    simp only [storeCells, Sem.run_bind, hst, Result.andThen_ok, ih, setRow_setRow]
    congr 3
    have e := list_seg_step cur.toList (o + i) v rest (by simp at hl ⊢; omega)
    simpa [Array.toList_setIfInBounds, Nat.add_assoc] using e

theorem OwnG.cells {w : World} {B n cap g : Nat} {xs : List Value} (h : OwnG w B (.slice (some ⟨g, 0, none⟩) n cap) n xs) : ∀ j u, xs[j]? = some u → w.cell? ((⟨g, 0, none⟩ : Addr).add j) = some u := by
  intro j u hu
  obtain ⟨_, g', c, cur, fz, he, _, hg, _, _, _, _, ht⟩ := h
  simp at he
  obtain ⟨rfl, rfl⟩ := he
  have hadd : (⟨g, 0, none⟩ : Addr).add j = ⟨g, j, none⟩ := by unfold Addr.add; split <;> simp_all
  rw [hadd, cell_of_row w g j cur 5 fz hg]
  rw [← ht, List.getElem?_take] at hu
  split at hu
  · simpa using hu
  · cases hu

/-- The new row, where the old one has no room. -/
theorem grown_g (w : World) (B n m old : Nat) (xs news : List Value) (hx : xs.length = n) (hm : news.length = m) (hB : B ≤ w.heap.size) (h63 : n + m ≤ maxLen) :
    OwnG (w.drew.alloc (.cells (xs.toArray ++ news.toArray ++ Builtin.zeroCells (Value.int .u8 0).cells (grownCap w (n + m) old 5 - (n + m))) 5)) B (.slice (some ⟨w.heap.size, 0, none⟩) (n + m) (grownCap w (n + m) old 5)) (n + m) (xs ++ news) ∧
    ∀ row, w.grownBy (w.drew.alloc (.cells (xs.toArray ++ news.toArray ++ Builtin.zeroCells (Value.int .u8 0).cells (grownCap w (n + m) old 5 - (n + m))) 5)) row := by
  have hge := grownCap_ge w (n + m) old 5
  have hcm : grownCap w (n + m) old 5 ≤ maxLen := grownCap_le_maxLen w (n + m) old 5 h63
  refine ⟨⟨by simp [hx, hm], w.heap.size, _, _, (0, 0), rfl, hB, heap_alloc_new w.drew _, .inl rfl, hge, hcm, ?_, ?_⟩, fun row => ⟨rfl, rfl, rfl, by simp, fun k hk _ => Below.heap_alloc w.drew _ k hk⟩⟩
  · have hz1 : (Value.int IntKind.u8 0).cells.size = 1 := rfl
    simp only [Array.size_append, List.size_toArray, size_zeroCells, hz1, hx, hm]
    omega
  · simp only [Array.toList_append, List.append_assoc]
    rw [← List.append_assoc, ← show (xs ++ news).length = n + m by simp [hx, hm]]
    exact List.take_left

theorem room_g {w : World} {B n m cap g : Nat} {xs news : List Value} {cur : Array Value} {fz : Nat × Nat} (hx : xs.length = n) (hm : news.length = m) (hB : B ≤ g) (hg : w.heap[g]? = some (.cells cur 5 fz)) (hfz : fz = (0, 0) ∨ cur.size ≤ fz.1) (hroom : n + m ≤ cap) (hcm : cap ≤ maxLen) (hcs : cur.size = cap) (ht : cur.toList.take n = xs) :
    OwnG (w.setRow g (cur.toList.take n ++ news ++ cur.toList.drop (n + m)).toArray) B (.slice (some ⟨g, 0, none⟩) (n + m) cap) (n + m) (xs ++ news) ∧ w.grownBy (w.setRow g (cur.toList.take n ++ news ++ cur.toList.drop (n + m)).toArray) (some g) := by
  have hsz : (cur.toList.take n ++ news ++ cur.toList.drop (n + m)).length = cur.size := by simp [hm]; omega
  refine ⟨⟨by simp [hx, hm], g, cap, _, fz, rfl, hB, setRow_heap w g cur _ 5 _ hg, by rw [List.size_toArray, hsz]; exact hfz, hroom, hcm, by simp; omega, ?_⟩, ⟨rfl, rfl, rfl, by simp, fun k _ hk => setRow_other w g k _ (fun e => hk (by simp [e]))⟩⟩
  rw [ht, ← show (xs ++ news).length = n + m by simp [hx, hm]]
  exact List.take_left

theorem append_str_g (w : World) (ty : TypeId) (B n : Nat) (v : Value) (xs : List Value) (h : OwnG w B v n xs) (s : ByteArray) (h63 : n + s.size ≤ maxLen) (hb : n + s.size ≤ 140737488355328) (hB : B ≤ w.heap.size) :
    ∃ v' w', (Builtin.append_ #[22, 9] ty #[v, .string s]).run Ybad.prog w = .ok v' w' ∧ OwnG w' B v' (n + s.size) (xs ++ Lib.strCells s) ∧ w.grownBy w' v.ownBlock := by
  obtain ⟨i, hi, hz0, hz1, hz2⟩ := info_parts info5
  have h' := h
  have hsmall : n + s.size ≤ 9223372036854775807 := by simp only [maxLen] at h63; omega
  obtain ⟨hx, g, cap, cur, fz, rfl, hBg, hg, hfz, hnc, hcm, hcs, ht⟩ := h
  by_cases hroom : n + s.size ≤ cap
  · have hf := Lib.run_firstCells_string (P := Ybad.prog) w 1 s
    have hst := storeCells_g Ybad.prog g n fz (Lib.strCells s) 0 cur w hg hfz (by simp [Lib.strCells_length]; omega) (Lib.strCells_oneCell s)
    simp only [Nat.add_zero, Lib.strCells_length] at hst
    obtain ⟨r1, r2⟩ := room_g hx (Lib.strCells_length s) hBg hg hfz hroom hcm hcs ht
    refine ⟨_, _, ?_, r1, by simpa [Value.ownBlock] using r2⟩
    simp [Builtin.append_, run_underlying Ybad.underlying22, run_underlying Ybad.underlying9, sizeOf, typeInfo, hi, hz1, Builtin.lenOf, hroom, hf, Addr.add_lit, hst]
  · have hr := Lib.run_append_grow_string (P := Ybad.prog) w 22 9 ty 5 i (.int .u8 0) Ybad.underlying22 Ybad.underlying9 hi hz0 ⟨g, 0, none⟩ n cap xs (by rw [hz1]; omega) h'.cells s (by omega) (by omega) (by rw [hz2]; exact growslice_fits (by omega) (by omega))
    obtain ⟨r1, r2⟩ := grown_g w B n s.size cap xs (Lib.strCells s) hx (Lib.strCells_length s) hB h63
    exact ⟨_, _, hr, r1, r2 _⟩

theorem append_sl_g (w : World) (ty : TypeId) (B n : Nat) (v : Value) (xs : List Value) (h : OwnG w B v n xs) (a : Addr) (m c : Nat) (news : List Value) (hm : news.length = m) (hnews : ∀ j u, news[j]? = some u → w.cell? (a.add j) = some u) (h1 : ∀ u ∈ news, u.oneCell' = true)
    (h63 : n + m ≤ maxLen) (hb : n + m ≤ 140737488355328) (hB : B ≤ w.heap.size) :
    ∃ v' w', (Builtin.append_ #[22, 22] ty #[v, .slice (some a) m c]).run Ybad.prog w = .ok v' w' ∧ OwnG w' B v' (n + m) (xs ++ news) ∧ w.grownBy w' v.ownBlock := by
  obtain ⟨i, hi, hz0, hz1, hz2⟩ := info_parts info5
  have h' := h
  have hsmall : n + m ≤ 9223372036854775807 := by simp only [maxLen] at h63; omega
  obtain ⟨hx, g, cap, cur, fz, rfl, hBg, hg, hfz, hnc, hcm, hcs, ht⟩ := h
  by_cases hroom : n + m ≤ cap
  · have hf := run_firstCells_some (P := Ybad.prog) w i.size m a m c news (by rw [hz1]; omega) hnews
    have hst := storeCells_g Ybad.prog g n fz news 0 cur w hg hfz (by simp; omega) h1
    simp only [Nat.add_zero, hm] at hst
    obtain ⟨r1, r2⟩ := room_g hx hm hBg hg hfz hroom hcm hcs ht
    rw [hz1] at hf
    refine ⟨_, _, ?_, r1, by simpa [Value.ownBlock] using r2⟩
    simp [Builtin.append_, run_underlying Ybad.underlying22, sizeOf, typeInfo, hi, hz1, Builtin.lenOf, hroom, hf, Addr.add_lit, hst]
  · have hr := run_append_grow (P := Ybad.prog) w 22 ty 5 i (.int .u8 0) Ybad.underlying22 hi hz0 ⟨g, 0, none⟩ n cap xs (by rw [hz1]; omega) h'.cells a m c news (by rw [hz1]; omega) hnews (by omega) (by omega) (growslice_fits (by omega) (by rw [hz2]; omega))
    obtain ⟨r1, r2⟩ := grown_g w B n m cap xs news hx hm hB h63
    exact ⟨_, _, hr, r1, r2 _⟩

theorem wpList_str_g {w : World} {ops : Array Oper} {rest : List Oper} {o : Oper} {a : Act} {Q : Exit → Act → World → Prop} (hgd : o.guard = none) (sl x : Operand) (ho : o.op = .call { callee := .builtin .append, args := #[sl, x], argTypes := #[22, 9] })
    (B n : Nat) (v : Value) (xs : List Value) (hs : a.eval sl = v) (h : OwnG w B v n xs) (s : ByteArray) (hx : a.eval x = .string s) (h63 : n + s.size ≤ maxLen) (hb : n + s.size ≤ 140737488355328) (hB : B ≤ w.heap.size)
    (hK : ∀ v' w', OwnG w' B v' (n + s.size) (xs ++ Lib.strCells s) → w.grownBy w' v.ownBlock → wpList Ybad.prog ops Q rest (a.put o.dst v') w') : wpList Ybad.prog ops Q (o :: rest) a w := by
  refine wpList_plain hgd fun K hK' => ?_
  obtain ⟨v', w', hr, h2, h3⟩ := append_str_g w o.type B n v xs h s h63 hb hB
  unfold Oper.wp execOp
  simp only [ho, resolve, invoke, builtin, Sem.run_bind, Sem.run_pure, Result.andThen_ok, List.map_toArray, List.map_cons, List.map_nil, hs, hx, hr]
  exact hK' _ _ (hK v' w' h2 h3)
theorem wpList_sl_g {w : World} {ops : Array Oper} {rest : List Oper} {o : Oper} {a : Act} {Q : Exit → Act → World → Prop} (hgd : o.guard = none) (sl x : Operand) (ho : o.op = .call { callee := .builtin .append, args := #[sl, x], argTypes := #[22, 22] })
    (B n : Nat) (v : Value) (xs : List Value) (hs : a.eval sl = v) (h : OwnG w B v n xs) (ad : Addr) (m c : Nat) (news : List Value) (hx : a.eval x = .slice (some ad) m c) (hm : news.length = m) (hnews : ∀ j u, news[j]? = some u → w.cell? (ad.add j) = some u) (h1 : ∀ u ∈ news, u.oneCell' = true) (h63 : n + m ≤ maxLen) (hb : n + m ≤ 140737488355328) (hB : B ≤ w.heap.size)
    (hK : ∀ v' w', OwnG w' B v' (n + m) (xs ++ news) → w.grownBy w' v.ownBlock → wpList Ybad.prog ops Q rest (a.put o.dst v') w') : wpList Ybad.prog ops Q (o :: rest) a w := by
  refine wpList_plain hgd fun K hK' => ?_
  obtain ⟨v', w', hr, h2, h3⟩ := append_sl_g w o.type B n v xs h ad m c news hm hnews h1 h63 hb hB
  unfold Oper.wp execOp
  simp only [ho, resolve, invoke, builtin, Sem.run_bind, Sem.run_pure, Result.andThen_ok, List.map_toArray, List.map_cons, List.map_nil, hs, hx, hr]
  exact hK' _ _ (hK v' w' h2 h3)

theorem OwnG.of {w : World} {B n : Nat} {v : Value} {xs : List Value} (h : w.ownsRow B 5 1 v n xs) (hn : 0 < n) : OwnG w B v n xs := by
  obtain ⟨hl, ⟨_, rfl⟩ | ⟨g, cap, cur, rfl, hg, hh, h1, h2, h3, h4⟩⟩ := h
  · omega
  · exact ⟨by simpa using hl, g, cap, cur, (0, 0), rfl, hg, hh, .inl rfl, h1, h2, by simpa using h3, by simpa using h4⟩
theorem OwnG.lt {w : World} {B n : Nat} {v : Value} {xs : List Value} (h : OwnG w B v n xs) : ∀ k, v.ownBlock = some k → B ≤ k ∧ k < w.heap.size := by
  intro k hk
  obtain ⟨_, g, cap, cur, fz, rfl, hg, hh, _⟩ := h
  simp [Value.ownBlock] at hk; subst hk
  exact ⟨hg, lt_of_block hh⟩
theorem OwnG.later {w w1 : World} {B n : Nat} {v : Value} {xs : List Value} (h : OwnG w B v n xs) (hb : Below w.heap.size w w1) : OwnG w1 B v n xs := by
  obtain ⟨hl, g, cap, cur, fz, rfl, hg, hh, hr⟩ := h
  exact ⟨hl, g, cap, cur, fz, rfl, hg, by rw [hb.block g (lt_of_block hh)]; exact hh, hr⟩
end Go.Proofs.YbulkcvviDoor

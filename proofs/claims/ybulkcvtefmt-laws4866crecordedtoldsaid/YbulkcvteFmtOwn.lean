/- Rows of the call's own: integers, lapses, signatures; appending one element; what they read as. -/
import Derived.Test.YbulkcvteFmtSpk
import Derived.Maps.AppendAt
namespace Go.Proofs.YbulkcvteFmt
open Go.RowKit
set_option linter.unusedVariables false

theorem own_later {w w1 : World} {B0 e k n : Nat} {v : Value} {bs : List Value} (h : w.ownsRow B0 e k v n bs) (hb : Below w.heap.size w w1) : w1.ownsRow B0 e k v n bs := by
  obtain ⟨hl, h | ⟨g, c, cur, he, hg, hh, hr⟩⟩ := h
  · exact ⟨hl, .inl h⟩
  · exact ⟨hl, .inr ⟨g, c, cur, he, hg, by rw [hb.block g (lt_of_block hh)]; exact hh, hr⟩⟩
theorem own_shape {w : World} {base e k n : Nat} {v : Value} {xs : List Value} (h : w.ownsRow base e k v n xs) : ∃ ad cap, v = .slice ad n cap := by
  obtain ⟨_, ⟨rfl, rfl⟩ | ⟨g, cap, cur, rfl, _⟩⟩ := h
  · exact ⟨_, _, rfl⟩
  · exact ⟨_, _, rfl⟩

/-- append of one element that a literal has just laid. -/
theorem app_one {P : Program} {w0 : World} {ops : Array Oper} {rest : List Oper} {o : Oper} {a : Act} {Q : Exit → Act → World → Prop} (hgd : o.guard = none) (sl x : Operand) (t : TypeId)
    (ho : o.op = .call { callee := .builtin .append, args := #[sl, x], argTypes := #[t, t] }) (B : Nat) (e : TypeId) (i : TypeInfo) (z : Value) (size bytes : Nat) (ht : P.underlying t = some (.slice e)) (hi : P.info? e = some i) (hz : i.zero = some z)
    (hsize : i.size = size) (hby : i.bytes = bytes) (hzs : z.cells.size = size) (hsz : 0 < size) (hby2 : bytes ≤ 1024)
    (v : Value) (n : Nat) (xs : List Value) (hs : a.eval sl = v) (hown : w0.ownsRow B e size v n xs) (news : List Value) (hx : a.eval x = .slice (some ⟨w0.heap.size, 0, none⟩) 1 1) (hl : news.length = size) (h1 : ∀ u ∈ news, u.oneCell' = true)
    (hn : n ≤ 1048576) (hB : B ≤ w0.heap.size)
    (hK : ∀ v' w', w'.ownsRow B e size v' (n + 1) (xs ++ news) → Below B w0 w' → wpList P ops Q rest (a.put o.dst v') w') :
    wpList P ops Q (o :: rest) a (w0.alloc (.cells news.toArray e)) := by
  refine wpList_append_own _ hgd sl x t ho B e i z size bytes ht hi hz hsize hby hzs hsz v n xs hs (hown.alloc _) ⟨w0.heap.size, 0, none⟩ 1 1 news hx (by omega) ?_ h1 (by unfold maxLen; omega) ?_ (by simp; omega) ?_
  · intro j u hj
    have hadd : (⟨w0.heap.size, 0, none⟩ : Addr).add j = ⟨w0.heap.size, j, none⟩ := by unfold Addr.add; split <;> simp_all
    rw [hadd]
    exact (Blk.new w0 e news.toArray).cell j (by simpa using hj)
  · have : (n + 1) * bytes ≤ 1048577 * 1024 := Nat.mul_le_mul (by omega) hby2
    omega
  · intro v' w' ho' hg _
    refine hK v' w' ho' ?_
    have hb0 : Below B w0 (w0.alloc (.cells news.toArray e)) := (Below.refl _ _).alloc hB _
    exact hb0.grown hg (by simp; omega) (fun k hk => (hown.lt k hk).1)

theorem info3 : (Ybaf.prog.info? 3).map (fun i => (i.zero, i.size, i.bytes)) = some (some (.int .i64 0), 1, 8) := by kernel_rfl
theorem info31 : (Ybaf.prog.info? 31).map (fun i => (i.zero, i.size, i.bytes)) = some (some (.agg #[.int .i64 0, .int .u16 0, .int .u64 0]), 3, 24) := by kernel_rfl
theorem info41 : (Ybaf.prog.info? 41).map (fun i => (i.zero, i.size, i.bytes)) = some (some (.agg #[.int .i64 0, .slice none 0 0]), 2, 32) := by kernel_rfl

/-- The value v owns, from block B on, the integers L. -/
def OwnI (w : World) (B : Nat) (v : Value) (L : List Int) : Prop := w.ownsRow B 3 1 v L.length (L.map (Value.int .i64))
/-- .. the lapses L. -/
def OwnL (w : World) (B : Nat) (v : Value) (L : List Lap) : Prop := w.ownsRow B 31 3 v L.length (L.flatMap Lap.cells)
theorem OwnI.nil (w : World) (B : Nat) : OwnI w B (.slice none 0 0) [] := World.ownsRow_nil _ _ _ _
theorem OwnL.nil (w : World) (B : Nat) : OwnL w B (.slice none 0 0) [] := World.ownsRow_nil _ _ _ _
theorem OwnI.later {w w1 : World} {B : Nat} {v : Value} {L : List Int} (h : OwnI w B v L) (hb : Below w.heap.size w w1) : OwnI w1 B v L := own_later h hb
theorem OwnL.later {w w1 : World} {B : Nat} {v : Value} {L : List Lap} (h : OwnL w B v L) (hb : Below w.heap.size w w1) : OwnL w1 B v L := own_later h hb
theorem OwnI.shape {w : World} {B : Nat} {v : Value} {L : List Int} (h : OwnI w B v L) : ∃ ad cap, v = .slice ad L.length cap := own_shape h
theorem OwnL.shape {w : World} {B : Nat} {v : Value} {L : List Lap} (h : OwnL w B v L) : ∃ ad cap, v = .slice ad L.length cap := own_shape h

theorem take_get {cur : Array Value} {n : Nat} {xs : List Value} (ht : cur.toList.take n = xs) {i : Nat} {v : Value} (h : xs[i]? = some v) : cur[i]? = some v := by
  rw [← ht, List.getElem?_take] at h
  split at h
  · simpa using h
  · cases h

/-- What is owned can be read. -/
theorem OwnI.ints {w : World} {B : Nat} {v : Value} {L : List Int} (h : OwnI w B v L) : Ints w v L := by
  obtain ⟨hl, ⟨rfl, hn⟩ | ⟨g, cap, cur, rfl, hg, hh, hc, hm, hsz, ht⟩⟩ := h
  · rw [List.eq_nil_of_length_eq_zero hn]; exact Ints.nil w
  · refine ⟨_, cap, rfl, hc, hm, fun i hi => ⟨g, 0, rfl, lt_of_block hh, ?_⟩⟩
    have := take_get ht (i := i) (v := cellI L i) (by simp [cellI, List.getD, hi])
    simp [World.cell?, hh, this]

theorem lap_cell (L : List Lap) : ∀ (i j : Nat), i < L.length → j < 3 → (L.flatMap Lap.cells)[i * 3 + j]? = (lapAt L i).cells[j]? := by
  induction L with
  | nil => intro i j hi; exact absurd hi (Nat.not_lt_zero _)
  | cons x xs ih =>
    intro i j hi hj
    cases i with
    | zero =>
      simp only [List.flatMap_cons, lapAt]
      rw [List.getElem?_append_left (by simp [Lap.cells]; omega)]
      simp
    | succ i =>
      have := ih i j (by simpa using hi) hj
      simp only [List.flatMap_cons]
      rw [List.getElem?_append_right (by simp [Lap.cells]; omega)]
      rw [show (i + 1) * 3 + j - x.cells.length = i * 3 + j by simp [Lap.cells]; omega, this]
      simp [lapAt]

theorem OwnL.laps {w : World} {B : Nat} {v : Value} {L : List Lap} (h : OwnL w B v L) : Laps w v L := by
  obtain ⟨hl, ⟨rfl, hn⟩ | ⟨g, cap, cur, rfl, hg, hh, hc, hm, hsz, ht⟩⟩ := h
  · rw [List.eq_nil_of_length_eq_zero hn]; exact Laps.nil w
  · refine ⟨_, cap, rfl, hc, hm, fun i hi => ⟨g, 0, rfl, lt_of_block hh, ?_, ?_, ?_⟩⟩
    · have := take_get ht (i := i * 3) (v := .int .i64 (lapAt L i).v) (by have := lap_cell L i 0 hi (by omega); simpa [Lap.cells] using this)
      simp [World.cell?, hh, this]
    · have := take_get ht (i := i * 3 + 1) (v := .int .u16 (lapAt L i).m) (by have := lap_cell L i 1 hi (by omega); simpa [Lap.cells] using this)
      simp [World.cell?, hh, this]
    · have := take_get ht (i := i * 3 + 2) (v := .int .u64 (lapAt L i).b) (by have := lap_cell L i 2 hi (by omega); simpa [Lap.cells] using this)
      simp [World.cell?, hh, this]

theorem app26 {w0 : World} {ops : Array Oper} {rest : List Oper} {o : Oper} {a : Act} {Q : Exit → Act → World → Prop} (hgd : o.guard = none) (sl x : Operand)
    (ho : o.op = .call { callee := .builtin .append, args := #[sl, x], argTypes := #[26, 26] }) (B : Nat) (v : Value) (L : List Int) (hs : a.eval sl = v) (hown : OwnI w0 B v L) (y : Int) (hx : a.eval x = .slice (some ⟨w0.heap.size, 0, none⟩) 1 1)
    (hn : L.length ≤ 1048576) (hB : B ≤ w0.heap.size)
    (hK : ∀ v' w', OwnI w' B v' (L ++ [y]) → Below B w0 w' → wpList Ybaf.prog ops Q rest (a.put o.dst v') w') :
    wpList Ybaf.prog ops Q (o :: rest) a (w0.alloc (.cells #[.int .i64 y] 3)) := by
  obtain ⟨i, hi, hz0, hz1, hz2⟩ := info_parts info3
  refine app_one hgd sl x 26 ho B 3 i _ 1 8 Ybaf.underlying26 hi hz0 hz1 hz2 rfl (by decide) (by decide) v L.length _ hs hown [.int .i64 y] hx rfl (fun u hu => by simp at hu; subst hu; rfl) hn hB (fun v' w' h1 h2 => hK v' w' ?_ h2)
  unfold OwnI
  simpa using h1

theorem app27 {w0 : World} {ops : Array Oper} {rest : List Oper} {o : Oper} {a : Act} {Q : Exit → Act → World → Prop} (hgd : o.guard = none) (sl x : Operand)
    (ho : o.op = .call { callee := .builtin .append, args := #[sl, x], argTypes := #[27, 27] }) (B : Nat) (v : Value) (L : List Int) (hs : a.eval sl = v) (hown : OwnI w0 B v L) (y : Int) (hx : a.eval x = .slice (some ⟨w0.heap.size, 0, none⟩) 1 1)
    (hn : L.length ≤ 1048576) (hB : B ≤ w0.heap.size)
    (hK : ∀ v' w', OwnI w' B v' (L ++ [y]) → Below B w0 w' → wpList Ybaf.prog ops Q rest (a.put o.dst v') w') :
    wpList Ybaf.prog ops Q (o :: rest) a (w0.alloc (.cells #[.int .i64 y] 3)) := by
  obtain ⟨i, hi, hz0, hz1, hz2⟩ := info_parts info3
  refine app_one hgd sl x 27 ho B 3 i _ 1 8 Ybaf.underlying27 hi hz0 hz1 hz2 rfl (by decide) (by decide) v L.length _ hs hown [.int .i64 y] hx rfl (fun u hu => by simp at hu; subst hu; rfl) hn hB (fun v' w' h1 h2 => hK v' w' ?_ h2)
  unfold OwnI
  simpa using h1

theorem app28 {w0 : World} {ops : Array Oper} {rest : List Oper} {o : Oper} {a : Act} {Q : Exit → Act → World → Prop} (hgd : o.guard = none) (sl x : Operand)
    (ho : o.op = .call { callee := .builtin .append, args := #[sl, x], argTypes := #[28, 28] }) (B : Nat) (v : Value) (L : List Lap) (hs : a.eval sl = v) (hown : OwnL w0 B v L) (y1 y2 y3 : Int) (hx : a.eval x = .slice (some ⟨w0.heap.size, 0, none⟩) 1 1)
    (hn : L.length ≤ 1048576) (hB : B ≤ w0.heap.size)
    (hK : ∀ v' w', OwnL w' B v' (L ++ [⟨y1, y2, y3⟩]) → Below B w0 w' → wpList Ybaf.prog ops Q rest (a.put o.dst v') w') :
    wpList Ybaf.prog ops Q (o :: rest) a (w0.alloc (.cells #[.int .i64 y1, .int .u16 y2, .int .u64 y3] 31)) := by
  obtain ⟨i, hi, hz0, hz1, hz2⟩ := info_parts info31
  refine app_one hgd sl x 28 ho B 31 i _ 3 24 Ybaf.underlying28 hi hz0 hz1 hz2 rfl (by decide) (by decide) v L.length _ hs hown [.int .i64 y1, .int .u16 y2, .int .u64 y3] hx rfl (fun u hu => by simp at hu; rcases hu with rfl | rfl | rfl <;> rfl) hn hB (fun v' w' h1 h2 => hK v' w' ?_ h2)
  unfold OwnL
  simpa [Lap.cells] using h1
end Go.Proofs.YbulkcvteFmt

/- Appending with an exact frame: all blocks but the row's own stay; the new row is the old one's block or a new block. -/
import Derived.Test.YbulkcvviDoorOwn
import Derived.Test.YbulkcvviDoorShelf
namespace Go.Proofs.YbulkcvviDoor
open Go.RowKit

/-- From v in w to v' in w': every block of w but v's own stays; v' lies in v's block or in a new one. -/
structure Grew (v v' : Value) (w w' : World) : Prop where
  by' : w.grownBy w' v.ownBlock
  at' : ∀ k, v'.ownBlock = some k → v.ownBlock = some k ∨ w.heap.size ≤ k

theorem Grew.refl (v : Value) (w : World) : Grew v v w w := ⟨⟨rfl, rfl, rfl, Nat.le_refl _, fun _ _ _ => rfl⟩, fun _ h => .inl h⟩
theorem Grew.trans {a b c : Value} {w w1 w2 : World} (h : Grew a b w w1) (g : Grew b c w1 w2) : Grew a c w w2 := by
  refine ⟨⟨g.by'.os.trans h.by'.os, g.by'.tape.trans h.by'.tape, g.by'.output.trans h.by'.output, Nat.le_trans h.by'.size g.by'.size, fun k hk hne => ?_⟩, fun k hk => ?_⟩
  · have h1 := h.by'.size
    rw [g.by'.block k (by omega) (fun e => ?_), h.by'.block k hk hne]
    rcases h.at' k e.symm with e2 | e2
    · exact hne e2.symm
    · omega
  · rcases g.at' k hk with e | e
    · exact h.at' k e
    · have h1 := h.by'.size
      exact .inr (by omega)
theorem Grew.later {a b : Value} {w w1 w2 : World} (h : Grew a b w w1) (hb : Below w1.heap.size w1 w2) : Grew a b w w2 :=
  ⟨⟨hb.os.trans h.by'.os, hb.tape.trans h.by'.tape, hb.output.trans h.by'.output, Nat.le_trans h.by'.size hb.size, fun k hk hne => by
    have := h.by'.size
    rw [hb.block k (by omega), h.by'.block k hk hne]⟩, h.at'⟩
theorem Grew.alloc {a b : Value} {w w1 : World} (h : Grew a b w w1) (o : Obj) : Grew a b w (w1.alloc o) := h.later ((Below.refl _ _).alloc (Nat.le_refl _) _)
theorem Grew.below {a b : Value} {w w1 : World} {B n e s : Nat} {xs : List Value} (h : Grew a b w w1) (ho : w.ownsRow B e s a n xs) (hB : B ≤ w.heap.size) : Below B w w1 :=
  (Below.refl B w).grown h.by' hB (fun k hk => (ho.lt k hk).1)
theorem Grew.kept {a b : Value} {w w1 : World} {B n : Nat} {xs : List Value} (h : Grew a b w w1) (ho : w.ownsRow B 5 1 a n xs) : Lib.OthersKept 5 none w w1 :=
  (Lib.OthersKept.refl _ _ _).grown h.by' (Lib.ownsRow_kind ho)

/-- append(v, x...), a slice of bytes: with the place. -/
theorem append_at (w : World) (ty : TypeId) (B n : Nat) (v : Value) (xs : List Value) (hown : w.ownsRow B 5 1 v n xs) (a : Addr) (m c : Nat) (news : List Value) (hm : news.length = m) (hnews : ∀ j u, news[j]? = some u → w.cell? (a.add j) = some u) (h1 : ∀ u ∈ news, u.oneCell' = true)
    (h63 : n + m ≤ maxLen) (hb : n + m ≤ 140737488355328) (hB : B ≤ w.heap.size) :
    ∃ v' w', (Builtin.append_ #[22, 22] ty #[v, .slice (some a) m c]).run Ybad.prog w = .ok v' w' ∧ w'.ownsRow B 5 1 v' (n + m) (xs ++ news) ∧ Grew v v' w w' := by
  obtain ⟨i, hi, hz0, hz1, hz2⟩ := info_parts info5
  have hsmall : n + m ≤ 9223372036854775807 := by simp only [maxLen] at h63; omega
  obtain ⟨v', w', hr, h2, h3, h4⟩ := run_append_own (P := Ybad.prog) w B 22 ty 5 i (.int .u8 0) 1 1 Ybad.underlying22 hi hz0 hz1 hz2 rfl (by decide) v n xs hown a m c news (by omega) hnews h1 h63 (by omega) hB
  refine ⟨v', w', hr, h2, h3, fun k hk => ?_⟩
  rcases hown.2 with ⟨rfl, rfl⟩ | ⟨g, cap, cur, rfl, hbg, hg, hnc, hcm, hcs, htake⟩
  · by_cases hm0 : m = 0
    · rw [h4.2 ⟨rfl, hm0⟩] at hk; cases hk
    · have hr2 := run_append_nil (P := Ybad.prog) w 22 ty 5 i (.int .u8 0) Ybad.underlying22 hi hz0 a m c news (by rw [hz1]; omega) hnews (by omega) (by omega) (by rw [hz2]; omega)
      rw [hr] at hr2
      injection hr2 with e1 e2
      subst e1
      simp [Value.ownBlock] at hk
      exact .inr (by omega)
  · by_cases hroom : n + m ≤ cap
    · have hr2 := run_append_room (P := Ybad.prog) w 22 ty 5 i Ybad.underlying22 hi g n cap cur hg a m c news (by rw [hz1]; omega) hnews h1 hroom (by rw [hz1, hcs]; omega)
      rw [hr] at hr2
      injection hr2 with e1 e2
      subst e1
      exact .inl hk
    · have hxl : xs.length = n := by simpa using hown.1
      have hr2 := run_append_grow (P := Ybad.prog) w 22 ty 5 i (.int .u8 0) Ybad.underlying22 hi hz0 ⟨g, 0, none⟩ n cap xs (by rw [hz1]; omega) (hown.cells (g := g) rfl) a m c news (by rw [hz1]; omega) hnews (by omega) (by omega) (growslice_fits (by omega) (by rw [hz2]; omega))
      rw [hr] at hr2
      injection hr2 with e1 e2
      subst e1
      simp [Value.ownBlock] at hk
      exact .inr (by omega)
/-- append(v, s...), a string: with the place. -/
theorem append_str_at (w : World) (ty : TypeId) (B n : Nat) (v : Value) (xs : List Value) (hown : w.ownsRow B 5 1 v n xs) (s : ByteArray) (h63 : n + s.size ≤ maxLen) (hb : n + s.size ≤ 140737488355328) (hB : B ≤ w.heap.size) :
    ∃ v' w', (Builtin.append_ #[22, 9] ty #[v, .string s]).run Ybad.prog w = .ok v' w' ∧ w'.ownsRow B 5 1 v' (n + s.size) (xs ++ Lib.strCells s) ∧ Grew v v' w w' := by
  obtain ⟨i, hi, hz0, hz1, hz2⟩ := info_parts info5
  have hsmall : n + s.size ≤ 9223372036854775807 := by simp only [maxLen] at h63; omega
  obtain ⟨v', w', hr, h2, h3, h4⟩ := Lib.run_append_own_string (P := Ybad.prog) w B 22 9 ty 5 i Ybad.underlying22 Ybad.underlying9 hi hz0 hz1 hz2 v n xs hown s h63 hb hB
  refine ⟨v', w', hr, h2, h3, fun k hk => ?_⟩
  rcases hown.2 with ⟨rfl, rfl⟩ | ⟨g, cap, cur, rfl, hbg, hg, hnc, hcm, hcs, htake⟩
  · by_cases hm0 : s.size = 0
    · rw [h4.2 ⟨rfl, hm0⟩] at hk; cases hk
    · have hr2 := run_append_nil_string (P := Ybad.prog) w 22 9 ty 5 i (.int .u8 0) Ybad.underlying22 Ybad.underlying9 hi hz0 s (by omega) (by omega) (by rw [hz2]; omega)
      rw [hr] at hr2
      injection hr2 with e1 e2
      subst e1
      simp [Value.ownBlock] at hk
      exact .inr (by omega)
  · by_cases hroom : n + s.size ≤ cap
    · have hr2 := Lib.run_append_room_string (P := Ybad.prog) w 22 9 ty 5 i Ybad.underlying22 Ybad.underlying9 hi hz1 g n cap cur hg s hroom (by rw [hcs]; omega)
      rw [hr] at hr2
      injection hr2 with e1 e2
      subst e1
      exact .inl hk
    · have hxl : xs.length = n := by simpa using hown.1
      have hr2 := Lib.run_append_grow_string (P := Ybad.prog) w 22 9 ty 5 i (.int .u8 0) Ybad.underlying22 Ybad.underlying9 hi hz0 ⟨g, 0, none⟩ n cap xs (by rw [hz1]; omega) (hown.cells (g := g) rfl) s (by omega) (by omega) (by rw [hz2]; exact growslice_fits (by omega) (by omega))
      rw [hr] at hr2
      injection hr2 with e1 e2
      subst e1
      simp [Value.ownBlock] at hk
      exact .inr (by omega)
theorem wpList_str_at {w : World} {ops : Array Oper} {rest : List Oper} {o : Oper} {a : Act} {Q : Exit → Act → World → Prop} (hgd : o.guard = none) (sl x : Operand) (ho : o.op = .call { callee := .builtin .append, args := #[sl, x], argTypes := #[22, 9] })
    (B n : Nat) (v : Value) (xs : List Value) (hs : a.eval sl = v) (h : w.ownsRow B 5 1 v n xs) (s : ByteArray) (hx : a.eval x = .string s) (h63 : n + s.size ≤ maxLen) (hb : n + s.size ≤ 140737488355328) (hB : B ≤ w.heap.size)
    (hK : ∀ v' w', w'.ownsRow B 5 1 v' (n + s.size) (xs ++ Lib.strCells s) → Grew v v' w w' → wpList Ybad.prog ops Q rest (a.put o.dst v') w') : wpList Ybad.prog ops Q (o :: rest) a w := by
  refine wpList_plain hgd fun K hK' => ?_
  obtain ⟨v', w', hr, h2, h3⟩ := append_str_at w o.type B n v xs h s h63 hb hB
  unfold Oper.wp execOp
  simp only [ho, resolve, invoke, builtin, Sem.run_bind, Sem.run_pure, Result.andThen_ok, List.map_toArray, List.map_cons, List.map_nil, hs, hx, hr]
  exact hK' _ _ (hK v' w' h2 h3)
theorem wpList_sl_at {w : World} {ops : Array Oper} {rest : List Oper} {o : Oper} {a : Act} {Q : Exit → Act → World → Prop} (hgd : o.guard = none) (sl x : Operand) (ho : o.op = .call { callee := .builtin .append, args := #[sl, x], argTypes := #[22, 22] })
    (B n : Nat) (v : Value) (xs : List Value) (hs : a.eval sl = v) (h : w.ownsRow B 5 1 v n xs) (ad : Addr) (m c : Nat) (news : List Value) (hx : a.eval x = .slice (some ad) m c) (hm : news.length = m) (hnews : ∀ j u, news[j]? = some u → w.cell? (ad.add j) = some u) (h1 : ∀ u ∈ news, u.oneCell' = true) (h63 : n + m ≤ maxLen) (hb : n + m ≤ 140737488355328) (hB : B ≤ w.heap.size)
    (hK : ∀ v' w', w'.ownsRow B 5 1 v' (n + m) (xs ++ news) → Grew v v' w w' → wpList Ybad.prog ops Q rest (a.put o.dst v') w') : wpList Ybad.prog ops Q (o :: rest) a w := by
  refine wpList_plain hgd fun K hK' => ?_
  obtain ⟨v', w', hr, h2, h3⟩ := append_at w o.type B n v xs h ad m c news hm hnews h1 h63 hb hB
  unfold Oper.wp execOp
  simp only [ho, resolve, invoke, builtin, Sem.run_bind, Sem.run_pure, Result.andThen_ok, List.map_toArray, List.map_cons, List.map_nil, hs, hx, hr]
  exact hK' _ _ (hK v' w' h2 h3)
end Go.Proofs.YbulkcvviDoor

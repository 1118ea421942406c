/- A row of commits of the call's own: one more; what it reads as. -/
import Derived.Test.YbulkcvteFmtAfter
namespace Go.Proofs.YbulkcvteFmt
open Go.RowKit
set_option linter.unusedVariables false

/-- The cells of commits (member, block of its one byte). -/
def sigCells (L : List (Int × Nat)) : List Value := L.flatMap fun c => [.int .i64 c.1, .slice (some ⟨c.2, 0, none⟩) 1 1]
/-- The value v owns, from block B on, the commits L. -/
def OwnS (w : World) (B : Nat) (v : Value) (L : List (Int × Nat)) : Prop := w.ownsRow B 41 2 v L.length (sigCells L)
theorem OwnS.nil (w : World) (B : Nat) : OwnS w B (.slice none 0 0) [] := World.ownsRow_nil _ _ _ _
theorem OwnS.later {w w1 : World} {B : Nat} {v : Value} {L : List (Int × Nat)} (h : OwnS w B v L) (hb : Below w.heap.size w w1) : OwnS w1 B v L := own_later h hb
theorem OwnS.shape {w : World} {B : Nat} {v : Value} {L : List (Int × Nat)} (h : OwnS w B v L) : ∃ ad cap, v = .slice ad L.length cap := own_shape h

theorem app36 {w0 : World} {ops : Array Oper} {rest : List Oper} {o : Oper} {a : Act} {Q : Exit → Act → World → Prop} (N : Nat) (hN : w0.heap.size = N) (hgd : o.guard = none) (sl x : Operand)
    (ho : o.op = .call { callee := .builtin .append, args := #[sl, x], argTypes := #[36, 36] }) (B : Nat) (v : Value) (L : List (Int × Nat)) (hs : a.eval sl = v) (hown : OwnS w0 B v L) (y : Int) (g : Nat) (hx : a.eval x = .slice (some ⟨N, 0, none⟩) 1 1)
    (hn : L.length ≤ 1048576) (hB : B ≤ N)
    (hK : ∀ v' w', OwnS w' B v' (L ++ [(y, g)]) → Below B w0 w' → wpList Ybaf.prog ops Q rest (a.put o.dst v') w') :
    wpList Ybaf.prog ops Q (o :: rest) a (w0.alloc (.cells #[.int .i64 y, .slice (some ⟨g, 0, none⟩) 1 1] 41)) := by
  subst hN
  obtain ⟨i, hi, hz0, hz1, hz2⟩ := info_parts info41
  refine app_one hgd sl x 36 ho B 41 i _ 2 32 Ybaf.underlying36 hi hz0 hz1 hz2 rfl (by decide) (by decide) v L.length _ hs hown [.int .i64 y, .slice (some ⟨g, 0, none⟩) 1 1] hx rfl (fun u hu => by simp at hu; rcases hu with rfl | rfl <;> rfl) hn hB (fun v' w' h1 h2 => hK v' w' ?_ h2)
  unfold OwnS
  simpa [sigCells] using h1

theorem sig_cell (L : List (Int × Nat)) : ∀ (i : Nat) (hi : i < L.length), (sigCells L)[i * 2]? = some (.int .i64 L[i].1) ∧ (sigCells L)[i * 2 + 1]? = some (.slice (some ⟨L[i].2, 0, none⟩) 1 1) := by
  induction L with
  | nil => intro i hi; exact absurd hi (Nat.not_lt_zero _)
  | cons x xs ih =>
    intro i hi
    cases i with
    | zero => simp [sigCells]
    | succ i =>
      have := ih i (by simpa using hi)
      unfold sigCells at *
      simp only [List.flatMap_cons]
      rw [List.getElem?_append_right (by simp; omega), List.getElem?_append_right (by simp; omega)]
      rw [show (i + 1) * 2 - [Value.int .i64 x.1, .slice (some ⟨x.2, 0, none⟩) 1 1].length = i * 2 by simp; omega, show (i + 1) * 2 + 1 - [Value.int .i64 x.1, .slice (some ⟨x.2, 0, none⟩) 1 1].length = i * 2 + 1 by simp; omega]
      simpa using this

/-- What is owned can be read, each commit's one byte with it. -/
theorem OwnS.sigs {w : World} {B : Nat} {v : Value} {L : List (Int × Nat)} (h : OwnS w B v L) (Bs : List Sig) (hl : L.length = Bs.length) (hx : ∀ (i : Nat) (hi : i < L.length), (sigAt Bs i).v = L[i].1 ∧ L[i].2 < w.heap.size ∧ w.cell? ⟨L[i].2, 0, none⟩ = some (.int .u8 (sigAt Bs i).x)) : Sigs w v Bs := by
  obtain ⟨_, ⟨rfl, hn⟩ | ⟨g, cap, cur, rfl, hg, hh, hc, hm, hsz, ht⟩⟩ := h
  · exact ⟨none, 0, by rw [← hl, hn], fun i hi => absurd hi (by omega)⟩
  · refine ⟨_, cap, by rw [← hl], fun i hi => ?_⟩
    have hi' : i < L.length := by omega
    obtain ⟨e1, e2, e3⟩ := hx i hi'
    obtain ⟨c1, c2⟩ := sig_cell L i hi'
    refine ⟨g, 0, L[i].2, rfl, lt_of_block hh, e2, ?_, ?_, e3⟩
    · have := take_get ht c1
      simp [World.cell?, hh, this, e1]
    · have := take_get ht c2
      simp [World.cell?, hh, this]
end Go.Proofs.YbulkcvteFmt

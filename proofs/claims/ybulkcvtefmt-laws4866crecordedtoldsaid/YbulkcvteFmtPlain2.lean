/- The plain law: the view, and from where a member comes back. -/
import Derived.Test.YbulkcvteFmtPlain
import Derived.Test.YbulkcvteFmtFollow
namespace Go.Proofs.YbulkcvteFmt
set_option linter.unusedVariables false

/-- The law's own count of the views that a block records. -/
def evGo (S Pa : List Int) (h : Nat) (M : List Int) : Nat → Nat → Nat
  | 0, v => v
  | k + 1, v => if spk S Pa h v ∈ M then evGo S Pa h M k (v + 1) else v
theorem evGo_eq {S Pa M : List Int} (hM : Asc M) (h : Nat) : ∀ k v, evGo S Pa h M k v = propGo S Pa h M k v
  | 0, _ => rfl
  | k + 1, v => by
    unfold evGo propGo
    rw [hasB_asc hM, evGo_eq hM h k (v + 1)]
    simp

/-- From where the law's loop lets a member back. -/
def bfOf (La : List Lap) (m : Int) : Int := La.foldl (fun acc l => if l.v = m then l.b else acc) 0
theorem bf_none {m : Int} : ∀ (La : List Lap) (acc : Int), (∀ l ∈ La, l.v ≠ m) → La.foldl (fun acc l => if l.v = m then l.b else acc) acc = acc
  | [], acc, _ => rfl
  | l :: r, acc, h => by
    simp only [List.foldl_cons]
    rw [if_neg (h l (by simp))]
    exact bf_none r acc (fun x hx => h x (by simp [hx]))
theorem bf_eq {La : List Lap} (hA : Asc (vals La)) (m : Int) : (lapseOf La m).b = bfOf La m := by
  unfold lapseOf bfOf
  cases hq : hasB (vals La) m with
  | false =>
    rw [hasB_asc hA] at hq
    have hno : ∀ l ∈ La, l.v ≠ m := fun l hl e => by
      have : m ∈ vals La := by unfold vals; exact List.mem_map.2 ⟨l, hl, e⟩
      simp [this] at hq
    rw [bf_none La 0 hno]
    rfl
  | true =>
    have hq' := hq
    unfold hasB at hq'
    rw [vals_len] at hq'
    simp only [Bool.and_eq_true, decide_eq_true_eq, beq_iff_eq] at hq'
    obtain ⟨hp, he⟩ := hq'
    generalize bsPos (vals La) m = p at hp he
    rw [vals_get hp] at he
    have hsplit : La = La.take p ++ lapAt La p :: La.drop (p + 1) := by
      have h1 : La.drop p = lapAt La p :: La.drop (p + 1) := by
        rw [List.drop_eq_getElem_cons hp]
        simp [lapAt, List.getD, hp]
      rw [← h1, List.take_append_drop]
    have hno : ∀ l ∈ La.drop (p + 1), l.v ≠ m := fun l hl e => by
      obtain ⟨i, hi, rfl⟩ := List.getElem_of_mem hl
      simp only [List.length_drop] at hi
      have hlt := hA.lt (show p < p + 1 + i by omega) (by rw [vals_len]; omega)
      rw [vals_get hp, vals_get (show p + 1 + i < La.length by omega), he] at hlt
      have h2 : (La.drop (p + 1))[i]'(by simp; omega) = lapAt La (p + 1 + i) := by
        simp [lapAt, List.getD, show p + 1 + i < La.length by omega]
      rw [h2] at e
      omega
    simp only [if_true]
    conv => rhs; rw [hsplit]
    rw [List.foldl_append, List.foldl_cons, if_pos he, bf_none _ _ hno]
end Go.Proofs.YbulkcvteFmt

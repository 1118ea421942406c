/- A region that draws its order: those of its operations that only read are taken first, each when it can come; one that writes or calls comes when it alone can come. One walk, in an order of our choosing, serves every order. -/
import Derived.Test.YbulkcvteFmtLive
namespace Go.Proofs.YbulkcvteFmt
open Go.RowKit
set_option linter.unusedVariables false

section
variable {P : Program} {ops : Array Oper} {md : Region.Mode} {C : World → Prop} {Q : Act → World → Prop}

def Never : Exit → Act → World → Prop := fun _ _ _ => False

/-- Operation i comes up: it ends well, in a world of the kind C. -/
def opC (P : Program) (ops : Array Oper) (C : World → Prop) (i : Nat) (K : Act → World → Prop) (a : Act) (w : World) : Prop :=
  match ops[i]? with
  | none => K a w
  | some o => if Region.wanted o (yielded ops a.tmps) then o.wp P a w (fun a' w' => C w' ∧ K a' w') Never else K (a.put o.dst undef) w

/-- Whatever order is picked. -/
def anyC (P : Program) (md : Region.Mode) (ops : Array Oper) (C : World → Prop) (Q : Act → World → Prop) : Nat → Array Bool → Act → World → Prop
  | 0, listed, a, w => Region.ready md ops listed = [] ∧ Q a w
  | fuel + 1, listed, a, w => (Region.ready md ops listed = [] → Q a w) ∧ ∀ i ∈ Region.ready md ops listed, opC P ops C i (anyC P md ops C Q fuel (listed.setIfInBounds i true)) a w

theorem wp_calm {o : Oper} {a : Act} {w : World} {K K' : Act → World → Prop} {Q' : Exit → Act → World → Prop} (h : ∀ a w, K a w → K' a w) (hh : o.wp P a w K Never) : o.wp P a w K' Q' := by
  unfold Oper.wp at *
  cases hr : (execOp a.eval o).run P w with
  | ok n w' =>
    rw [hr] at hh
    cases n with
    | value v => exact h _ _ hh
    | skip => exact h _ _ hh
    | defer d => exact h _ _ hh
    | enter f args =>
      refine Calls.mono hh fun e w'' he => ?_
      cases e with
      | returned v => exact h _ _ he
      | panicked c => exact absurd he id
      | outgrown => obtain ⟨_, _, hf⟩ := he; exact absurd hf id
    | row r args => exact Rows.mono hh fun _ _ he => h _ _ he
    | _ => exact absurd hh id
  | halt x w' => rw [hr] at hh; cases x <;> exact absurd hh id

theorem opC_mono {i : Nat} {a : Act} {w : World} {K K' : Act → World → Prop} (h : ∀ a w, C w → K a w → K' a w) (hw : C w) (hh : opC P ops C i K a w) : opC P ops C i K' a w := by
  unfold opC at *
  cases ho : ops[i]? with
  | none => rw [ho] at hh; exact h _ _ hw hh
  | some o =>
    rw [ho] at hh
    by_cases hq : Region.wanted o (yielded ops a.tmps) = true
    · simp only [hq, if_true] at hh ⊢
      exact wp_calm (fun a w hk => ⟨hk.1, h _ _ hk.1 hk.2⟩) hh
    · simp only [hq] at hh ⊢
      exact h _ _ hw hh

theorem wpAny_of_anyC {Q' : Exit → Act → World → Prop} (hQ : ∀ a w, Q a w → Q' .normal a w) : ∀ (fuel : Nat) (listed : Array Bool) (a : Act) (w : World), anyC P md ops C Q fuel listed a w → wpAny P md ops Q' fuel listed a w
  | 0, _, _, _, h => ⟨h.1, hQ _ _ h.2⟩
  | fuel + 1, listed, a, w, h => ⟨fun h0 => hQ _ _ (h.1 h0), fun i hi => by
      have h1 := h.2 i hi
      unfold opC at h1
      unfold wpOp
      cases ho : ops[i]? with
      | none => rw [ho] at h1; exact wpAny_of_anyC hQ fuel _ _ _ h1
      | some o =>
        rw [ho] at h1
        by_cases hq : Region.wanted o (yielded ops a.tmps) = true
        · simp only [hq, if_true] at h1 ⊢
          exact .inl (wp_calm (fun a w hk => wpAny_of_anyC hQ fuel _ _ _ hk.2) h1)
        · simp only [hq] at h1 ⊢
          exact wpAny_of_anyC hQ fuel _ _ _ h1⟩

/-- In every world of the kind the operation o, in state a, yields v, and turns nothing; or it is not wanted. -/
def StillC (P : Program) (ops : Array Oper) (C : World → Prop) (o : Oper) (v : Value) (a : Act) : Prop :=
  (Region.wanted o (yielded ops a.tmps) = true ∧ ∀ w, C w → (execOp a.eval o).run P w = .ok (.value v) w) ∨ (Region.wanted o (yielded ops a.tmps) = false ∧ v = undef)

theorem StillC.op {i : Nat} {o : Oper} {v : Value} {a : Act} {w : World} {K : Act → World → Prop} (hi : ops[i]? = some o) (hy : StillC P ops C o v a) (hw : C w) (h : K (a.put o.dst v) w) : opC P ops C i K a w := by
  unfold opC
  rw [hi]
  rcases hy with ⟨hq, hv⟩ | ⟨hq, rfl⟩
  · simp only [hq, if_true, Oper.wp, hv w hw, Oper.upon]
    exact ⟨hw, h⟩
  · simp only [hq]
    exact h

theorem StillC.same {o : Oper} {v : Value} {a a' : Act} (hy : StillC P ops C o v a) (he : execOp a'.eval o = execOp a.eval o) (hq : Region.wanted o (yielded ops a'.tmps) = Region.wanted o (yielded ops a.tmps)) : StillC P ops C o v a' := by
  unfold StillC at *
  rw [he, hq]
  exact hy

/-- Another operation, apart from the still one, does as well ahead of it as behind it. -/
theorem opC_put {j : Nat} {oi oj : Oper} {v : Value} (hj : ops[j]? = some oj) (hap : oi.apart ops oj = true) (hsi : ∀ cs b, oi.op ≠ .select cs b) (hsj : ∀ cs b, oj.op ≠ .select cs b) {K : Act → World → Prop} {a : Act} {w : World}
    (hy : StillC P ops C oi v a) (h : opC P ops C j K (a.put oi.dst v) w) : opC P ops C j (fun a' w' => StillC P ops C oi v a' ∧ K (a'.put oi.dst v) w') a w := by
  obtain ⟨h1, h2, h3⟩ := Oper.apart_spec hap
  have keep : ∀ (a : Act), StillC P ops C oi v a → ∀ u, StillC P ops C oi v (a.put oj.dst u) := fun a hy u => hy.same (execOp_put oi hsi a oj.dst u h3) (wanted_put oi a oj.dst u h3)
  have both : ∀ (a : Act), StillC P ops C oi v a → ∀ u w', K ((a.put oi.dst v).put oj.dst u) w' → StillC P ops C oi v (a.put oj.dst u) ∧ K ((a.put oj.dst u).put oi.dst v) w' := fun a hy u w' hk => ⟨keep a hy u, by rw [← Act.put_comm a v u h2]; exact hk⟩
  unfold opC at *
  simp only [hj] at h ⊢
  rw [wanted_put oj a oi.dst v h1] at h
  by_cases hq : Region.wanted oj (yielded ops a.tmps) = true
  · simp only [hq, if_true] at h ⊢
    unfold Oper.wp at *
    rw [execOp_put oj hsj a oi.dst v h1] at h
    cases hr : (execOp a.eval oj).run P w with
    | ok n w' =>
      rw [hr] at h
      cases n with
      | value u => exact ⟨h.1, both a hy u _ h.2⟩
      | skip => exact ⟨h.1, both a hy undef _ h.2⟩
      | defer d =>
        refine ⟨h.1, ?_⟩
        have h' := h.2
        rw [Act.put_defers] at h'
        exact both { a with defers := d :: a.defers } (hy.same rfl rfl) undef _ h'
      | enter f args =>
        refine Calls.mono h fun e w'' he => ?_
        cases e with
        | returned u => exact ⟨he.1, both a hy u _ he.2⟩
        | panicked c => exact he
        | outgrown => exact he
      | row r args => exact Rows.mono h fun u w'' he => ⟨he.1, both a hy u _ he.2⟩
      | _ => exact h
    | halt x w' => rw [hr] at h; cases x <;> exact absurd h id
  · simp only [hq] at h ⊢
    exact both a hy undef _ h

/-- A still operation that can come may be taken first. -/
theorem anyC_first {i : Nat} {oi : Oper} {v : Value} (hi : ops[i]? = some oi) (hs : Region.noSelect ops = true) :
    ∀ (fuel : Nat) (listed : Array Bool) (a : Act) (w : World), C w →
      (∀ j oj, ops[j]? = some oj → j ≠ i → listed.getD j true = false → (∀ e ∈ oj.after, Region.binds md e = true → e.on ≠ i) → oi.apart ops oj = true) →
      i ∈ Region.ready md ops listed → StillC P ops C oi v a → anyC P md ops C Q fuel (listed.setIfInBounds i true) (a.put oi.dst v) w → anyC P md ops C Q (fuel + 1) listed a w := by
  intro fuel
  induction fuel with
  | zero =>
    intro listed a w hw _ hr hy H
    refine ⟨fun h => (by rw [h] at hr; cases hr), fun j hj => ?_⟩
    by_cases hji : j = i
    · subst hji
      exact hy.op hi hw H
    · have h1 := ready_mono hj hji
      rw [H.1] at h1
      cases h1
  | succ fuel ih =>
    intro listed a w hw hfree hr hy H
    refine ⟨fun h => (by rw [h] at hr; cases hr), fun j hj => ?_⟩
    by_cases hji : j = i
    · subst hji
      exact hy.op hi hw H
    · obtain ⟨hjun, oj, hoj, hall⟩ := mem_ready.1 hj
      have hnot : ∀ e ∈ oj.after, Region.binds md e = true → e.on ≠ i := fun e he hb heq => by
        have e1 := hall e he hb
        have e0 := (mem_ready.1 hr).1
        rw [heq] at e1
        rcases Nat.lt_or_ge i listed.size with h' | h'
        · simp [h'] at e0 e1
          rw [e0] at e1
          cases e1
        · simp [Array.getElem?_eq_none h'] at e1
      have h2 := opC_put hoj (hfree j oj hoj hji hjun hnot) (fun cs b => Region.noSelect_spec hs i oi cs b hi) (fun cs b => Region.noSelect_spec hs j oj cs b hoj) hy (H.2 j (ready_mono hj hji))
      refine opC_mono (fun a' w' hw' h3 => ih (listed.setIfInBounds j true) a' w' hw' (fun k ok hk hki hun hno => hfree k ok hk hki ?_ hno) (ready_mono hr (Ne.symm hji)) h3.1 ?_) hw h2
      · by_cases hjk : j = k
        · subst hjk; exact hjun
        · rw [getD_set_ne true hjk] at hun; exact hun
      · rw [Array.setIfInBounds_comm _ _ hji]
        exact h3.2

/-- Our order: the operations' numbers; 'true': still. -/
def canB (md : Region.Mode) (ops : Array Oper) : List (Nat × Bool) → Array Bool → Bool
  | [], listed => (Region.ready md ops listed).isEmpty
  | (i, true) :: r, listed => (Region.ready md ops listed).contains i && Region.free md ops listed i && canB md ops r (listed.setIfInBounds i true)
  | (i, false) :: r, listed => (Region.ready md ops listed == [i]) && canB md ops r (listed.setIfInBounds i true)

/-- The walk in our order. -/
def chain (P : Program) (ops : Array Oper) (C : World → Prop) (Q : Act → World → Prop) : List (Nat × Bool) → Act → World → Prop
  | [], a, w => Q a w
  | (i, true) :: r, a, w => ∃ o v, ops[i]? = some o ∧ StillC P ops C o v a ∧ chain P ops C Q r (a.put o.dst v) w
  | (i, false) :: r, a, w => opC P ops C i (chain P ops C Q r) a w

theorem anyC_of_chain (hs : Region.noSelect ops = true) : ∀ (l : List (Nat × Bool)) (listed : Array Bool) (a : Act) (w : World), C w → canB md ops l listed = true → chain P ops C Q l a w → anyC P md ops C Q l.length listed a w
  | [], listed, a, w, hw, hB, h => ⟨by simpa [canB] using hB, h⟩
  | (i, true) :: r, listed, a, w, hw, hB, h => by
    simp only [canB, Bool.and_eq_true] at hB
    obtain ⟨⟨hr, hf⟩, hB'⟩ := hB
    obtain ⟨o, v, ho, hy, hn⟩ := h
    exact anyC_first ho hs r.length listed a w hw (Region.free_spec ho hf) (by simpa using hr) hy (anyC_of_chain hs r _ _ _ hw hB' hn)
  | (i, false) :: r, listed, a, w, hw, hB, h => by
    simp only [canB, Bool.and_eq_true, beq_iff_eq] at hB
    obtain ⟨hr, hB'⟩ := hB
    refine ⟨fun h0 => (by rw [hr] at h0; cases h0), fun j hj => ?_⟩
    rw [hr] at hj
    obtain rfl := List.mem_singleton.1 hj
    exact opC_mono (fun a' w' hw' hk => anyC_of_chain hs r _ _ _ hw' hB' hk) hw h

theorem wp_region_can {id : Nat} {Q' : Exit → Act → World → Prop} {a : Act} {w : World} (C : World → Prop) (l : List (Nat × Bool)) (hm : P.follows .mixedOrders = true) (hs : Region.noSelect ops = true) (hB : canB .any ops l (Array.replicate ops.size false) = true) (hl : l.length = ops.size)
    (hC : C w.drew) (h : chain P ops C (fun a' w' => Q' .normal a' w') l a w.drew) : (Code.region id ops true).wp P Q' a w := by
  refine wp_region_any hm (wpAny_of_anyC (C := C) (Q := fun a' w' => Q' .normal a' w') (fun _ _ h => h) _ _ _ _ ?_)
  have h1 := anyC_of_chain (md := .any) hs l (Array.replicate ops.size false) a _ hC hB h
  rw [hl] at h1
  exact h1

theorem chain_still {l : List (Nat × Bool)} {i : Nat} {o : Oper} {v : Value} {a : Act} {w : World} (ho : ops[i]? = some o) (hq : Region.wanted o (yielded ops a.tmps) = true) (hv : ∀ w', C w' → (execOp a.eval o).run P w' = .ok (.value v) w') (h : chain P ops C Q l (a.put o.dst v) w) : chain P ops C Q ((i, true) :: l) a w :=
  ⟨o, v, ho, .inl ⟨hq, hv⟩, h⟩
theorem chain_not {l : List (Nat × Bool)} {i : Nat} {o : Oper} {a : Act} {w : World} (ho : ops[i]? = some o) (hq : Region.wanted o (yielded ops a.tmps) = false) (h : chain P ops C Q l (a.put o.dst undef) w) : chain P ops C Q ((i, true) :: l) a w :=
  ⟨o, undef, ho, .inr ⟨hq, rfl⟩, h⟩
/-- A call, under its contract. -/
theorem chain_call {l : List (Nat × Bool)} {i : Nat} {o : Oper} {a : Act} {w : World} {f : FuncId} {args : Array Value} {R : Value → World → Prop} (ho : ops[i]? = some o) (hq : Region.wanted o (yielded ops a.tmps) = true) (he : (execOp a.eval o).run P w = .ok (.enter f args) w)
    (hc : Calls P f args w fun e w' => ∃ v, e = .returned v ∧ R v w') (h : ∀ v w', R v w' → C w' ∧ chain P ops C Q l (a.put o.dst v) w') : chain P ops C Q ((i, false) :: l) a w := by
  show opC P ops C i _ a w
  unfold opC
  rw [ho]
  simp only [hq, if_true, Oper.wp, he, Oper.upon]
  refine Calls.mono hc fun e w' ⟨v, hv, hR⟩ => ?_
  subst hv
  exact h v w' hR
/-- Another operation that turns the world. -/
theorem chain_op {l : List (Nat × Bool)} {i : Nat} {o : Oper} {a : Act} {w w1 : World} {n : Next} {u : Value} (ho : ops[i]? = some o) (hq : Region.wanted o (yielded ops a.tmps) = true) (hr : (execOp a.eval o).run P w = .ok n w1) (hn : n = .value u ∨ (n = .skip ∧ u = undef))
    (hC : C w1) (h : chain P ops C Q l (a.put o.dst u) w1) : chain P ops C Q ((i, false) :: l) a w := by
  show opC P ops C i _ a w
  unfold opC
  rw [ho]
  simp only [hq, if_true, Oper.wp, hr]
  rcases hn with rfl | ⟨rfl, rfl⟩
  · exact ⟨hC, h⟩
  · exact ⟨hC, h⟩
end
end Go.Proofs.YbulkcvteFmt

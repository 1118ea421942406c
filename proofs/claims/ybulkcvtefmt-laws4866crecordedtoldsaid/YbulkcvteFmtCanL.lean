/- As 'Can', but the one operation that comes last of all may leave the kind. -/
import Derived.Test.YbulkcvteFmtAfter
namespace Go.Proofs.YbulkcvteFmt
open Go.RowKit
set_option linter.unusedVariables false

section
variable {P : Program} {ops : Array Oper} {md : Region.Mode} {C : World → Prop} {Q : Act → World → Prop} {z : Nat}

/-- Whatever order is picked; operation z, which waits for all others, need not end in the kind. -/
def anyL (P : Program) (md : Region.Mode) (ops : Array Oper) (C : World → Prop) (z : Nat) (Q : Act → World → Prop) : Nat → Array Bool → Act → World → Prop
  | 0, listed, a, w => Region.ready md ops listed = [] ∧ Q a w
  | fuel + 1, listed, a, w => (Region.ready md ops listed = [] → Q a w) ∧ ∀ i ∈ Region.ready md ops listed, opC P ops (fun w' => i = z ∨ C w') i (anyL P md ops C z Q fuel (listed.setIfInBounds i true)) a w

theorem wpAny_of_anyL {Q' : Exit → Act → World → Prop} (hQ : ∀ a w, Q a w → Q' .normal a w) : ∀ (fuel : Nat) (listed : Array Bool) (a : Act) (w : World), anyL P md ops C z Q fuel listed a w → wpAny P md ops Q' fuel listed a w
  | 0, _, _, _, h => ⟨h.1, hQ _ _ h.2⟩
  | fuel + 1, listed, a, w, h => ⟨fun h0 => hQ _ _ (h.1 h0), fun i hi => by
      have h1 := h.2 i hi
      unfold opC at h1
      unfold wpOp
      cases ho : ops[i]? with
      | none => rw [ho] at h1; exact wpAny_of_anyL hQ fuel _ _ _ h1
      | some o =>
        rw [ho] at h1
        by_cases hq : Region.wanted o (yielded ops a.tmps) = true
        · simp only [hq, if_true] at h1 ⊢
          exact .inl (wp_calm (fun a w hk => wpAny_of_anyL hQ fuel _ _ _ hk.2) h1)
        · simp only [hq] at h1 ⊢
          exact wpAny_of_anyL hQ fuel _ _ _ h1⟩

/-- The operation z waits for operation i. -/
def waitsB (md : Region.Mode) (ops : Array Oper) (z i : Nat) : Bool := match ops[z]? with
  | some o => i != z && o.after.any fun e => Region.binds md e && e.on == i
  | none => false
theorem waits_spec {i : Nat} (h : waitsB md ops z i = true) {listed : Array Bool} (hz : z ∈ Region.ready md ops listed) : i ≠ z ∧ i ∉ Region.ready md ops listed := by
  unfold waitsB at h
  obtain ⟨_, o, ho, hall⟩ := mem_ready.1 hz
  rw [ho] at h
  simp only [Bool.and_eq_true, bne_iff_ne, ne_eq] at h
  obtain ⟨hne, hany⟩ := h
  obtain ⟨e, he, hb⟩ := Array.any_eq_true'.1 hany
  simp only [Bool.and_eq_true, beq_iff_eq] at hb
  refine ⟨hne, fun hi => ?_⟩
  have h1 := hall e he hb.1
  have h0 := (mem_ready.1 hi).1
  rw [hb.2] at h1
  rcases Nat.lt_or_ge i listed.size with h' | h'
  · simp [h'] at h0 h1
    rw [h0] at h1
    cases h1
  · simp [Array.getElem?_eq_none h'] at h1

/-- A still operation that can come may be taken first. -/
theorem anyL_first {i : Nat} {oi : Oper} {v : Value} (hi : ops[i]? = some oi) (hs : Region.noSelect ops = true) (hz : waitsB md ops z i = true) :
    ∀ (fuel : Nat) (listed : Array Bool) (a : Act) (w : World), C w →
      (∀ j oj, ops[j]? = some oj → j ≠ i → listed.getD j true = false → (∀ e ∈ oj.after, Region.binds md e = true → e.on ≠ i) → oi.apart ops oj = true) →
      i ∈ Region.ready md ops listed → StillC P ops C oi v a → anyL P md ops C z Q fuel (listed.setIfInBounds i true) (a.put oi.dst v) w → anyL P md ops C z Q (fuel + 1) listed a w := by
  have hop : ∀ {K : Act → World → Prop} {a : Act} {w : World}, C w → StillC P ops C oi v a → K (a.put oi.dst v) w → opC P ops (fun w' => i = z ∨ C w') i K a w := by
    intro K a w hw hy h
    unfold opC
    rw [hi]
    rcases hy with ⟨hq, hv⟩ | ⟨hq, rfl⟩
    · simp only [hq, if_true, Oper.wp, hv w hw, Oper.upon]
      exact ⟨.inr hw, h⟩
    · simp only [hq]
      exact h
  intro fuel
  induction fuel with
  | zero =>
    intro listed a w hw _ hr hy H
    refine ⟨fun h => (by rw [h] at hr; cases hr), fun j hj => ?_⟩
    by_cases hji : j = i
    · subst hji
      exact hop hw hy H
    · have h1 := ready_mono hj hji
      rw [H.1] at h1
      cases h1
  | succ fuel ih =>
    intro listed a w hw hfree hr hy H
    refine ⟨fun h => (by rw [h] at hr; cases hr), fun j hj => ?_⟩
    by_cases hji : j = i
    · subst hji
      exact hop hw hy H
    · have hjz : j ≠ z := fun e => by
        subst e
        exact (waits_spec hz hj).2 hr
      have hC : (fun w' => j = z ∨ C w') = C := by
        funext w'
        simp [hjz]
      obtain ⟨hjun, oj, hoj, hall⟩ := mem_ready.1 hj
      have hnot : ∀ e ∈ oj.after, Region.binds md e = true → e.on ≠ i := fun e he hb heq => by
        have e1 := hall e he hb
        have e0 := (mem_ready.1 hr).1
        rw [heq] at e1
        rcases Nat.lt_or_ge i listed.size with h' | h'
        · simp [h'] at e0 e1
          rw [e0] at e1
          cases e1
        · simp [Array.getElem?_eq_none h'] at e1
      have H2 := H.2 j (ready_mono hj hji)
      rw [hC] at H2 ⊢
      have h2 := opC_put hoj (hfree j oj hoj hji hjun hnot) (fun cs b => Region.noSelect_spec hs i oi cs b hi) (fun cs b => Region.noSelect_spec hs j oj cs b hoj) hy H2
      refine opC_mono (fun a' w' hw' h3 => ih (listed.setIfInBounds j true) a' w' hw' (fun k ok hk hki hun hno => hfree k ok hk hki ?_ hno) (ready_mono hr (Ne.symm hji)) h3.1 ?_) hw h2
      · by_cases hjk : j = k
        · subst hjk; exact hjun
        · rw [getD_set_ne true hjk] at hun; exact hun
      · rw [Array.setIfInBounds_comm _ _ hji]
        exact h3.2

/-- Our order, but for z, which comes last. -/
def canL (md : Region.Mode) (ops : Array Oper) (z : Nat) : List (Nat × Bool) → Array Bool → Bool
  | [], listed => (Region.ready md ops listed == [z]) && (Region.ready md ops (listed.setIfInBounds z true)).isEmpty
  | (i, true) :: r, listed => waitsB md ops z i && ((Region.ready md ops listed).contains i && Region.free md ops listed i && canL md ops z r (listed.setIfInBounds i true))
  | (i, false) :: r, listed => i != z && ((Region.ready md ops listed == [i]) && canL md ops z r (listed.setIfInBounds i true))

theorem anyL_of_chain (hs : Region.noSelect ops = true) : ∀ (l : List (Nat × Bool)) (listed : Array Bool) (a : Act) (w : World), C w → canL md ops z l listed = true → chain P ops C (fun a' w' => opC P ops (fun _ => True) z Q a' w') l a w → anyL P md ops C z Q (l.length + 1) listed a w
  | [], listed, a, w, hw, hB, h => by
    simp only [canL, Bool.and_eq_true, beq_iff_eq] at hB
    obtain ⟨hr, hr2⟩ := hB
    refine ⟨fun h0 => (by rw [hr] at h0; cases h0), fun j hj => ?_⟩
    rw [hr] at hj
    obtain rfl := List.mem_singleton.1 hj
    have h1 : opC P ops (fun _ => True) j Q a w := h
    unfold opC at h1 ⊢
    cases ho : ops[j]? with
    | none => rw [ho] at h1; exact ⟨by simpa using hr2, h1⟩
    | some o =>
      rw [ho] at h1
      by_cases hq : Region.wanted o (yielded ops a.tmps) = true
      · simp only [hq, if_true] at h1 ⊢
        exact wp_calm (fun a w hk => ⟨by simp, by simpa using hr2, hk.2⟩) h1
      · simp only [hq] at h1 ⊢
        exact ⟨by simpa using hr2, h1⟩
  | (i, true) :: r, listed, a, w, hw, hB, h => by
    simp only [canL, Bool.and_eq_true] at hB
    obtain ⟨hz, ⟨hr, hf⟩, hB'⟩ := hB
    obtain ⟨o, v, ho, hy, hn⟩ := h
    exact anyL_first ho hs hz (r.length + 1) listed a w hw (Region.free_spec ho hf) (by simpa using hr) hy (anyL_of_chain hs r _ _ _ hw hB' hn)
  | (i, false) :: r, listed, a, w, hw, hB, h => by
    simp only [canL, Bool.and_eq_true, beq_iff_eq, bne_iff_ne, ne_eq] at hB
    obtain ⟨hne, hr, hB'⟩ := hB
    refine ⟨fun h0 => (by rw [hr] at h0; cases h0), fun j hj => ?_⟩
    rw [hr] at hj
    obtain rfl := List.mem_singleton.1 hj
    have hC : (fun w' => j = z ∨ C w') = C := by
      funext w'
      simp [hne]
    rw [hC]
    exact opC_mono (fun a' w' hw' hk => anyL_of_chain hs r _ _ _ hw' hB' hk) hw h

theorem wp_region_last {id : Nat} {Q' : Exit → Act → World → Prop} {a : Act} {w : World} (C : World → Prop) (z : Nat) (l : List (Nat × Bool)) (hm : P.follows .mixedOrders = true) (hs : Region.noSelect ops = true) (hB : canL .any ops z l (Array.replicate ops.size false) = true) (hl : l.length + 1 = ops.size)
    (hC : C w.drew) (h : chain P ops C (fun a' w' => opC P ops (fun _ => True) z (fun a' w' => Q' .normal a' w') a' w') l a w.drew) : (Code.region id ops true).wp P Q' a w := by
  refine wp_region_any hm (wpAny_of_anyL (C := C) (z := z) (Q := fun a' w' => Q' .normal a' w') (fun _ _ h => h) _ _ _ _ ?_)
  have h1 := anyL_of_chain (md := .any) hs l (Array.replicate ops.size false) a _ hC hB h
  rw [hl] at h1
  exact h1

/-- The last operation: no call. -/
theorem lastO {i : Nat} {o : Oper} {a : Act} {w : World} (d : Option Tmp) (w1 : World) {n : Next} {u : Value} (ho : ops[i]? = some o) (hd : o.dst = d) (hq : Region.wanted o (yielded ops a.tmps) = true) (hr : (execOp a.eval o).run P w = .ok n w1) (hn : n = .value u ∨ (n = .skip ∧ u = undef))
    (h : Q (a.put d u) w1) : opC P ops (fun _ => True) i Q a w := by
  subst hd
  unfold opC
  rw [ho]
  simp only [hq, if_true, Oper.wp, hr]
  rcases hn with rfl | ⟨rfl, rfl⟩
  · exact ⟨trivial, h⟩
  · exact ⟨trivial, h⟩
end
end Go.Proofs.YbulkcvteFmt

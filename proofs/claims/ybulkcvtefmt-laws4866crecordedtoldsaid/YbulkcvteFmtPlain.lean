/- The plain law: Go's binary search on an ascending list. -/
import Derived.Test.YbulkcvteFmtMissed
namespace Go.Proofs.YbulkcvteFmt
set_option linter.unusedVariables false

/-- Ascending. -/
def Asc (L : List Int) : Prop := L.Pairwise (· < ·)
theorem Asc.lt {L : List Int} (h : Asc L) {i j : Nat} (hij : i < j) (hj : j < L.length) : L.getD i 0 < L.getD j 0 := by
  have := List.pairwise_iff_getElem.1 h i j (by omega) hj hij
  simpa [List.getD, hj, show i < L.length by omega] using this

theorem bsGo_spec {L : List Int} {x : Int} (h : Asc L) : ∀ (k lo hi : Nat), hi - lo ≤ k → lo ≤ hi → hi ≤ L.length → (∀ j, j < lo → L.getD j 0 < x) → (∀ j, hi ≤ j → j < L.length → x ≤ L.getD j 0) →
    bsGo L x k lo hi ≤ L.length ∧ (∀ j, j < bsGo L x k lo hi → L.getD j 0 < x) ∧ (∀ j, bsGo L x k lo hi ≤ j → j < L.length → x ≤ L.getD j 0)
  | 0, lo, hi, hk, hle, hn, hlo, hhi => by
    have : lo = hi := by omega
    subst this
    exact ⟨hn, hlo, hhi⟩
  | k + 1, lo, hi, hk, hle, hn, hlo, hhi => by
    rw [bsGo]
    by_cases hlt : lo < hi
    · rw [if_pos hlt]
      by_cases hy : L.getD ((lo + hi) / 2) 0 < x
      · rw [if_pos hy]
        refine bsGo_spec h k _ _ (by omega) (by omega) hn (fun j hj => ?_) hhi
        by_cases e : j = (lo + hi) / 2
        · rw [e]; exact hy
        · exact Int.lt_trans (h.lt (show j < (lo + hi) / 2 by omega) (by omega)) hy
      · rw [if_neg hy]
        refine bsGo_spec h k _ _ (by omega) (by omega) (by omega) hlo (fun j hj hjn => ?_)
        by_cases e : j = (lo + hi) / 2
        · rw [e]; omega
        · have := h.lt (show (lo + hi) / 2 < j by omega) hjn
          omega
    · rw [if_neg hlt]
      have : lo = hi := by omega
      subst this
      exact ⟨hn, hlo, hhi⟩

/-- On an ascending list the search finds just what is there. -/
theorem hasB_asc {L : List Int} (h : Asc L) (x : Int) : hasB L x = decide (x ∈ L) := by
  obtain ⟨h1, h2, h3⟩ := bsGo_spec (x := x) h L.length 0 L.length (by omega) (by omega) (Nat.le_refl _) (fun j hj => absurd hj (Nat.not_lt_zero _)) (fun j h1 h2 => by omega)
  rw [Bool.eq_iff_iff]
  unfold hasB bsPos
  generalize bsGo L x L.length 0 L.length = p at *
  simp only [Bool.and_eq_true, decide_eq_true_eq, beq_iff_eq]
  constructor
  · rintro ⟨hp, he⟩
    exact mem_of_get hp he
  · intro hx
    obtain ⟨i, hi, he⟩ := List.getElem_of_mem hx
    have he' : L.getD i 0 = x := by simpa [List.getD, hi] using he
    have hpi : p ≤ i := by
      rcases Nat.lt_or_ge i p with hlt | hge
      · have := h2 i hlt; omega
      · exact hge
    have hpn : p < L.length := by omega
    refine ⟨hpn, ?_⟩
    rcases Nat.eq_or_lt_of_le hpi with e | e
    · rw [e]; exact he'
    · have a1 := h.lt e hi
      have a2 := h3 p (Nat.le_refl _) hpn
      omega

theorem Asc.nodup {L : List Int} (h : Asc L) : L.Nodup := List.pairwise_iff_getElem.2 fun i j hi hj hij e => by
  have := List.pairwise_iff_getElem.1 h i j hi hj hij
  omega

/-- An ascending list is what it holds. -/
theorem asc_ext {L M : List Int} (hL : Asc L) (hM : Asc M) (h : ∀ x, x ∈ L ↔ x ∈ M) : L = M := by
  refine List.Perm.eq_of_pairwise (le := fun a b => a < b) (fun a b _ _ h1 h2 => by omega) hL hM ?_
  exact (List.perm_ext_iff_of_nodup hL.nodup hM.nodup).2 h

theorem mem_srt {L : List Int} {x : Int} : x ∈ srt L ↔ x ∈ L := by unfold srt; exact List.mem_mergeSort
theorem srt_asc {L : List Int} (h : L.Nodup) : Asc (srt L) := by
  have h1 : (srt L).Pairwise (fun a b => decide (a ≤ b) = true) := List.pairwise_mergeSort (fun a b c h1 h2 => by simp at *; omega) (fun a b => by simp; omega) L
  have h2 : (srt L).Nodup := (List.mergeSort_perm L _).nodup_iff.2 h
  refine List.pairwise_iff_getElem.2 fun i j hi hj hij => ?_
  have a1 := List.pairwise_iff_getElem.1 h1 i j hi hj hij
  have a2 := List.pairwise_iff_getElem.1 h2 i j hi hj hij
  simp at a1
  omega

theorem zmissed_asc (S Pa Li : List Int) (h v : Nat) : Asc (zmissed S Pa Li h v) := by
  unfold zmissed zmissedTo Asc
  rw [List.pairwise_map]
  refine List.Pairwise.filter _ ?_
  refine List.pairwise_iff_getElem.2 fun i j hi hj hij => ?_
  simp
  omega
theorem mem_zmissed {S Pa Li : List Int} {h v : Nat} {x : Int} : x ∈ zmissed S Pa Li h v ↔ ∃ i : Nat, i < 16 ∧ x = (i : Int) ∧ zmark S Pa Li h v i = true := by
  unfold zmissed zmissedTo
  simp only [List.mem_map, List.mem_filter, List.mem_range]
  constructor
  · rintro ⟨i, ⟨h1, h2⟩, rfl⟩; exact ⟨i, h1, rfl, h2⟩
  · rintro ⟨i, h1, rfl, h2⟩; exact ⟨i, ⟨h1, h2⟩, rfl⟩

/-- Of an ascending set the part that an ascending list does not hold. -/
theorem liveOf_eq {S Pa : List Int} (hP : Asc Pa) : liveOf S Pa = S.filter fun x => !decide (x ∈ Pa) := by
  unfold liveOf
  congr 1
  funext x
  rw [hasB_asc hP]
theorem liveOf_asc {S Pa : List Int} (hS : Asc S) : Asc (liveOf S Pa) := List.Pairwise.filter _ hS
theorem mem_live {S Pa : List Int} (hP : Asc Pa) {x : Int} : x ∈ liveOf S Pa ↔ x ∈ S ∧ x ∉ Pa := by
  rw [liveOf_eq hP]
  simp

/-- Two views below the number of members have two places. -/
theorem spos_inj {n h u v : Nat} (hu : u < n) (hv : v < n) (e : spos n h u = spos n h v) : u = v := by
  unfold spos at e
  have h0 : 0 < n := by omega
  have h1 := Nat.mod_lt h h0
  rw [Nat.mod_eq_of_lt hu, Nat.mod_eq_of_lt hv] at e
  split at e <;> split at e <;> omega
theorem spk_mem {S Pa : List Int} {h v : Nat} (h0 : 0 < (liveOf S Pa).length) : spk S Pa h v ∈ liveOf S Pa := getD_mem (spos_lt h0)
theorem spk_inj {S Pa : List Int} {h u v : Nat} (hS : Asc S) (hu : u < (liveOf S Pa).length) (hv : v < (liveOf S Pa).length) (e : spk S Pa h u = spk S Pa h v) : u = v := by
  have h0 : 0 < (liveOf S Pa).length := by omega
  refine spos_inj (h := h) hu hv ?_
  rcases Nat.lt_trichotomy (spos (liveOf S Pa).length h u) (spos (liveOf S Pa).length h v) with hlt | heq | hgt
  · have := (liveOf_asc (Pa := Pa) hS).lt hlt (spos_lt h0)
    unfold spk at e
    omega
  · exact heq
  · have := (liveOf_asc (Pa := Pa) hS).lt hgt (spos_lt h0)
    unfold spk at e
    omega

/-- What missed gathers has no member twice. -/
theorem missPre_nodup {S Pa : List Int} (hS : Asc S) (hP : Asc Pa) {h n : Nat} (hn : n ≤ (liveOf S Pa).length) : (missPre S Pa h n).Nodup := by
  unfold missPre
  rw [List.nodup_append]
  refine ⟨by split <;> simp, ?_, ?_⟩
  · rw [List.Nodup, List.pairwise_map]
    refine List.pairwise_iff_getElem.2 fun i j hi hj hij e => ?_
    simp at hi hj e
    have := spk_inj hS (by omega) (by omega) e
    omega
  · intro a ha b hb e
    subst e
    by_cases hq : hasB Pa (S.getD (spos S.length h 0) 0) = true
    · rw [if_pos hq] at ha
      simp only [List.mem_singleton] at ha
      simp only [List.mem_map, List.mem_range] at hb
      obtain ⟨u, hu, rfl⟩ := hb
      have h0 : 0 < (liveOf S Pa).length := by omega
      have h1 := ((mem_live hP).1 (spk_mem (h := h) (v := u) h0)).2
      rw [ha] at h1
      rw [hasB_asc hP] at hq
      exact h1 (by simpa using hq)
    · rw [if_neg hq] at ha
      cases ha

/-- The program's missed is the law's. -/
theorem missed_eq {S Pa : List Int} (hS : Asc S) (hP : Asc Pa) (bS : ∀ x ∈ S, 0 ≤ x ∧ x < 16) (h0 : 0 < S.length) {h v : Nat} (hv : v ≤ (liveOf S Pa).length) : missedOf S Pa h v = zmissed S Pa (liveOf S Pa) h v := by
  have hmin : min v (liveOf S Pa).length = v := by omega
  unfold missedOf
  rw [hmin]
  have hsp : spos S.length h 0 = h % S.length := by
    unfold spos
    have := Nat.zero_mod S.length
    rw [this, if_pos (Nat.zero_le _)]
    omega
  refine asc_ext (srt_asc (missPre_nodup hS hP hv)) (zmissed_asc _ _ _ _ _) fun x => ?_
  rw [mem_srt, mem_zmissed]
  have hmod := Nat.mod_lt h h0
  constructor
  · intro hx
    unfold missPre at hx
    rw [hsp, List.mem_append] at hx
    rcases hx with hx | hx
    · by_cases hq : hasB Pa (S.getD (h % S.length) 0) = true
      · rw [if_pos hq] at hx
        simp only [List.mem_singleton] at hx
        obtain ⟨b1, b2⟩ := bS _ (getD_mem hmod)
        rw [hasB_asc hP] at hq
        refine ⟨x.toNat, by omega, by omega, ?_⟩
        unfold zmark
        rw [hq]
        simp only [Bool.true_and, Bool.or_eq_true, beq_iff_eq]
        left
        omega
      · rw [if_neg hq] at hx
        cases hx
    · simp only [List.mem_map, List.mem_range] at hx
      obtain ⟨u, hu, rfl⟩ := hx
      have hl : 0 < (liveOf S Pa).length := by omega
      obtain ⟨b1, b2⟩ := bS _ ((mem_live hP).1 (spk_mem (h := h) (v := u) hl)).1
      refine ⟨(spk S Pa h u).toNat, by omega, by omega, ?_⟩
      unfold zmark
      simp only [Bool.or_eq_true, List.any_eq_true, List.mem_range, beq_iff_eq]
      right
      refine ⟨u, hu, ?_⟩
      show spk S Pa h u = _
      omega
  · rintro ⟨i, hi, rfl, hz⟩
    unfold zmark at hz
    simp only [Bool.or_eq_true, Bool.and_eq_true, List.any_eq_true, List.mem_range, beq_iff_eq, decide_eq_true_eq] at hz
    unfold missPre
    rw [hsp, List.mem_append]
    rcases hz with ⟨hm, he⟩ | ⟨u, hu, he⟩
    · left
      have hq : hasB Pa (S.getD (h % S.length) 0) = true := by rw [hasB_asc hP]; simpa using hm
      rw [if_pos hq]
      simp only [List.mem_singleton]
      omega
    · right
      simp only [List.mem_map, List.mem_range]
      exact ⟨u, hu, he⟩
end Go.Proofs.YbulkcvteFmt

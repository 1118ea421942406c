/- The law's own lists, in plain. -/
import Derived.Test.YbulkcvteFmtPlain2
import Derived.Test.YbulkcvteFmtSig
import Derived.Test.YbulkcvteFmtStmt
namespace Go.Proofs.YbulkcvteFmt
open Go.RowKit
set_option linter.unusedVariables false

/-- Bit k of a mask, as the walk reads it. -/
def bit (m k : Nat) : Bool := bits .and .u16 ((m : Int) / 2 ^ k) 1 == 1
def setTo (m n : Nat) : List Int := ((List.range n).filter (bit m)).map Int.ofNat
def setF (m : Nat) : List Int := if setTo m 16 = [] then [0] else setTo m 16
theorem setTo_len (m n : Nat) : (setTo m n).length ≤ n := by
  unfold setTo
  rw [List.length_map]
  exact Nat.le_trans (List.length_filter_le _ _) (by simp)
theorem setTo_succ (m n : Nat) : setTo m (n + 1) = setTo m n ++ (if bit m n then [(n : Int)] else []) := by
  unfold setTo
  rw [List.range_succ, List.filter_append, List.map_append]
  congr 1
  cases h : bit m n <;> simp [h]

theorem setTo_bound {m n : Nat} (hn : n ≤ 16) : ∀ x ∈ setTo m n, 0 ≤ x ∧ x < 16 := by
  intro x hx
  unfold setTo at hx
  simp only [List.mem_map, List.mem_filter, List.mem_range] at hx
  obtain ⟨i, ⟨hi, _⟩, rfl⟩ := hx
  simp only [Int.ofNat_eq_natCast]
  omega
theorem setF_bound (m : Nat) : ∀ x ∈ setF m, 0 ≤ x ∧ x < 16 := by
  intro x hx
  unfold setF at hx
  split at hx
  · simp at hx; omega
  · exact setTo_bound (Nat.le_refl _) x hx
theorem setF_len (m : Nat) : 0 < (setF m).length ∧ (setF m).length ≤ 16 := by
  unfold setF
  split
  · exact ⟨by decide, by decide⟩
  · rename_i h
    exact ⟨List.length_pos_iff.2 h, setTo_len m 16⟩
theorem setTo_asc (m n : Nat) : Asc (setTo m n) := by
  unfold setTo Asc
  rw [List.pairwise_map]
  refine List.Pairwise.filter _ ?_
  refine List.pairwise_iff_getElem.2 fun i j hi hj hij => ?_
  simp
  omega
theorem setF_asc (m : Nat) : Asc (setF m) := by
  unfold setF
  split
  · exact List.pairwise_singleton _ _
  · exact setTo_asc m 16
/-- Who is passed over at first: of the set those whose bit is set, f of them at most. -/
def passTo (pm f : Nat) (l : List Int) : List Int := l.foldl (fun acc m => if decide (acc.length < f) && bit pm m.toNat then acc ++ [m] else acc) []
theorem passTo_len (pm f : Nat) : ∀ (l acc : List Int), (l.foldl (fun acc m => if decide (acc.length < f) && bit pm m.toNat then acc ++ [m] else acc) acc).length ≤ acc.length + l.length
  | [], acc => Nat.le_refl _
  | x :: l, acc => by
    simp only [List.foldl_cons]
    refine Nat.le_trans (passTo_len pm f l _) ?_
    split <;> simp <;> omega


theorem pass_sub (pm f : Nat) : ∀ (l acc : List Int), ∃ t, t.Sublist l ∧ l.foldl (fun acc m => if decide (acc.length < f) && bit pm m.toNat then acc ++ [m] else acc) acc = acc ++ t
  | [], acc => ⟨[], List.Sublist.slnil, by simp⟩
  | x :: l, acc => by
    simp only [List.foldl_cons]
    split
    · obtain ⟨t, h1, h2⟩ := pass_sub pm f l (acc ++ [x])
      exact ⟨x :: t, h1.cons_cons x, by rw [h2]; simp⟩
    · obtain ⟨t, h1, h2⟩ := pass_sub pm f l acc
      exact ⟨t, h1.cons x, h2⟩
theorem passTo_sub (pm f : Nat) (l : List Int) : (passTo pm f l).Sublist l := by
  obtain ⟨t, h1, h2⟩ := pass_sub pm f l []
  unfold passTo
  rw [h2]
  simpa using h1
theorem pass_le (pm f : Nat) : ∀ (l acc : List Int), acc.length ≤ f → (l.foldl (fun acc m => if decide (acc.length < f) && bit pm m.toNat then acc ++ [m] else acc) acc).length ≤ f
  | [], acc, h => h
  | x :: l, acc, h => by
    simp only [List.foldl_cons]
    split
    · rename_i hc
      simp only [Bool.and_eq_true, decide_eq_true_eq] at hc
      exact pass_le pm f l _ (by simp; omega)
    · exact pass_le pm f l acc h
theorem passTo_le (pm f : Nat) (l : List Int) : (passTo pm f l).length ≤ f := pass_le pm f l [] (Nat.zero_le _)

/-- The lapses that are handed in: of the members those whose byte says so. -/
def lapB (r : Nat → Nat) (l2 k : Nat) : Bool := decide (k < l2) && !(((r k : Nat) : Int) % 4 == 0)
def lapV (S : List Int) (r : Nat → Nat) (h k : Nat) : Lap := ⟨S.getD k 0, ((r k : Nat) : Int) % 4, IntKind.u64.wrap (IntKind.u64.wrap ((h : Int) + ((r k : Nat) : Int) / 4 % 5) - 2)⟩
def lapTo (S : List Int) (r : Nat → Nat) (l2 h n : Nat) : List Lap := ((List.range n).filter (lapB r l2)).map (lapV S r h)
theorem lapTo_succ (S : List Int) (r : Nat → Nat) (l2 h n : Nat) : lapTo S r l2 h (n + 1) = lapTo S r l2 h n ++ (if lapB r l2 n then [lapV S r h n] else []) := by
  unfold lapTo
  rw [List.range_succ, List.filter_append, List.map_append]
  congr 1
  cases h : lapB r l2 n <;> simp [h]
theorem lapTo_len (S : List Int) (r : Nat → Nat) (l2 h n : Nat) : (lapTo S r l2 h n).length ≤ n := by
  unfold lapTo
  rw [List.length_map]
  exact Nat.le_trans (List.length_filter_le _ _) (by simp)
/-- What is known of the lapses. -/
structure LapOk (S : List Int) (La : List Lap) : Prop where
  asc : Asc (vals La)
  len : La.length ≤ 16
  small : Small La
  good : Good La
  big : ∀ x ∈ La, 0 ≤ x.b ∧ x.b < 18446744073709551616
theorem lap_ok {S : List Int} (hS : Asc S) (bS : ∀ x ∈ S, 0 ≤ x ∧ x < 16) (r : Nat → Nat) (l2 h n : Nat) (hn : n = S.length) (h16 : S.length ≤ 16) : LapOk S (lapTo S r l2 h n) := by
  have hmem : ∀ x ∈ lapTo S r l2 h n, ∃ k, k < n ∧ x = lapV S r h k := fun x hx => by
    unfold lapTo at hx
    simp only [List.mem_map, List.mem_filter, List.mem_range] at hx
    obtain ⟨k, ⟨hk, _⟩, rfl⟩ := hx
    exact ⟨k, hk, rfl⟩
  refine ⟨?_, Nat.le_trans (lapTo_len S r l2 h n) (by omega), fun x hx => ?_, fun x hx => ?_, fun x hx => ?_⟩
  · unfold vals lapTo Asc
    rw [List.map_map, List.pairwise_map]
    refine List.Pairwise.filter _ (List.pairwise_iff_getElem.2 fun i j hi hj hij => ?_)
    simp only [List.length_range] at hi hj
    simp only [List.getElem_range, Function.comp_apply, lapV]
    exact hS.lt hij (by omega)
  · obtain ⟨k, hk, rfl⟩ := hmem x hx
    have := bS _ (getD_mem (L := S) (k := k) (by omega))
    simp only [lapV]
    omega
  · obtain ⟨k, hk, rfl⟩ := hmem x hx
    simp only [lapV]
    omega
  · obtain ⟨k, hk, rfl⟩ := hmem x hx
    simp only [lapV]
    simp [IntKind.wrap, IntKind.signed, IntKind.bits]
    omega

/-- Somebody is live. -/
theorem live_pos {S Pa : List Int} (hS : Asc S) (hP : Asc Pa) (hsub : ∀ x ∈ Pa, x ∈ S) (hl : Pa.length < S.length) : 0 < (liveOf S Pa).length := by
  rcases Nat.eq_zero_or_pos (liveOf S Pa).length with h0 | h0
  · have h1 : liveOf S Pa = [] := List.eq_nil_of_length_eq_zero h0
    have h2 : S = Pa := asc_ext hS hP fun x => ⟨fun hx => by
      rcases Classical.em (x ∈ Pa) with h | h
      · exact h
      · have := (mem_live hP).2 ⟨hx, h⟩
        rw [h1] at this
        exact absurd this List.not_mem_nil, hsub x⟩
    rw [h2] at hl
    omega
  · exact h0

/-- A slice of bytes, cell by cell. -/
def BytesAt (w : World) (a : Option Addr) (n : Nat) (f : Nat → Nat) : Prop := (∀ i, f i < 256) ∧ ∀ i, i < n → ∃ b o, a = some ⟨b, o, none⟩ ∧ b < w.heap.size ∧ w.cell? ⟨b, o + i, none⟩ = some (.int .u8 (f i))
theorem BytesAt.later {w w' : World} {a : Option Addr} {n : Nat} {f : Nat → Nat} (h : BytesAt w a n f) (hb : Below w.heap.size w w') : BytesAt w' a n f := ⟨h.1, fun i hi => by
  obtain ⟨b, o, e, hlt, hc⟩ := h.2 i hi
  exact ⟨b, o, e, Nat.lt_of_lt_of_le hlt hb.size, by rw [hb.cell hlt]; exact hc⟩⟩
/-- What is known of the input. -/
structure Inp (w : World) (sm pm hh mm md vv bv cb qb : Nat) (a2 a7 : Option Addr) (l2 l7 : Nat) (r2 r7 : Nat → Nat) : Prop where
  kl2 : l2 ≤ 1024
  kl7 : l7 ≤ 1024
  ksm : sm < 65536
  kpm : pm < 65536
  khh : hh < 18446744073709551616
  kmm : mm < 65536
  kmd : md < 256
  kvv : vv < 256
  kbv : bv < 4294967296
  kcb : cb < 256
  kqb : qb < 256
  by2 : BytesAt w a2 l2 r2
  by7 : BytesAt w a7 l7 r7
  pos : 0 < w.heap.size
  tag : w.cell? ⟨0, 13, none⟩ = some (.string tagB)
/-- What the law's call leaves. -/
def LawPost (w : World) (e : Ending) (w' : World) : Prop := e = .returned (.bool true) ∧ Below w.heap.size w w'
/-- The members and who is passed over, as the law builds them. -/
structure SetOk (S Pa : List Int) : Prop where
  s0 : 0 < S.length
  s1 : S.length ≤ 16
  asc : Asc S
  bnd : ∀ x ∈ S, 0 ≤ x ∧ x < 16
  pasc : Asc Pa
  sub : ∀ x ∈ Pa, x ∈ S
  lt : Pa.length < S.length
theorem setOk (sm pm F : Nat) (hF : F = ((setF sm).length - 1) / 3) : SetOk (setF sm) (passTo pm F (setF sm)) := by
  have h := setF_len sm
  have hs := passTo_sub pm F (setF sm)
  have hl := passTo_le pm F (setF sm)
  exact ⟨h.1, h.2, setF_asc sm, setF_bound sm, List.Pairwise.sublist hs (setF_asc sm), fun x hx => hs.subset hx, by omega⟩
end Go.Proofs.YbulkcvteFmt

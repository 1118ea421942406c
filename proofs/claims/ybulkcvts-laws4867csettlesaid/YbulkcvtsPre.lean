/- What the law's walk is told of the slice that came in; bytes.Equal; the decoder as it is built. -/
import Derived.Test.YbulkcvtsTake
import Derived.OpenShut
namespace Go.Proofs.Ybulkcvts
open Go.RowKit Go.ChangeShapes Go.WideShapes

/-- 'string(v)' reads the numbers xs. -/
def Reads (w : World) (v : Value) (xs : List Int) : Prop := (convert 22 9 v).run Yba.prog w = .ok (.string (strOfNums xs)) w

theorem reads_zero (w : World) (p : Option Addr) (c : Nat) : Reads w (.slice p 0 c) [] := by
  unfold Reads
  rw [run_convert_bytes_string w 22 9 5 _ 0 c Yba.underlying22 Yba.underlying5 Yba.underlying9]
  cases p <;> simp [Conv.bytesToString, loadCells]
  all_goals rfl

theorem reads_at (w : World) (b off n c : Nat) (xs : List Int) (hl : xs.length = n) (h : ∀ i, i < n → w.cell? ⟨b, off + i, none⟩ = some (.int .u8 (xs.getD i 0))) : Reads w (.slice (some ⟨b, off, none⟩) n c) xs :=
  run_convert_bytes_arg w 22 5 Yba.underlying22 Yba.underlying5 b off n c xs hl h 9 Yba.underlying9

theorem reads_own {w : World} {B0 k : Nat} {v : Value} {xs : List Int} (h : w.ownsRow B0 5 1 v k (xs.map (Value.int .u8))) : Reads w v xs := by
  have hl : xs.length = k := by simpa using h.1
  have h' := h
  obtain ⟨_, ⟨rfl, rfl⟩ | ⟨g, c, cur, rfl, _⟩⟩ := h'
  · obtain rfl : xs = [] := List.eq_nil_of_length_eq_zero hl
    exact reads_zero w none 0
  · refine reads_at w g 0 k c xs hl fun i hi => ?_
    rw [Nat.zero_add, h.cellAt i (by omega)]
    simp [List.getElem?_eq_getElem (show i < xs.length by omega), List.getD]

set_option maxHeartbeats 400000 in
theorem equal_yes (u v : Value) (xs : List Int) (w : World) (hu : Reads w u xs) (hv : Reads w v xs) :
    Calls Yba.prog 5 #[u, v] w fun e w' => e = .returned (.bool true) ∧ w = w' := by
  unfold Reads at hu hv
  go_enter Yba.func5, Yba.ntmps5
  go_wp2
  go_ret
  exact ⟨by simp, rfl⟩

theorem equal_same (u v : Value) (xs : List Int) (w : World) (hu : Reads w u xs) (hv : Reads w v xs) :
    Calls Yba.prog 5 #[u, v] w fun e w' => e = .returned (.bool true) ∧ w' = w := (equal_yes u v xs w hu hv).mono fun _ _ ⟨he, hw⟩ => ⟨he, hw.symm⟩

/-- WHAT THE WALK IS TOLD OF A SLICE OF INTEGERS THAT CAME IN (the shell's own words). -/
def IsRow (k : IntKind) (w : World) (a : Option Addr) (len cap : Nat) (zs : List Int) : Prop :=
  (a = none ∧ len = 0 ∧ cap = 0 ∧ zs = []) ∨
  ∃ x, a = some x ∧ len ≤ cap ∧ cap ≤ maxLen ∧ zs.length = cap ∧ (∀ i, i < zs.length → w.cell? (x.add i) = some (.int k (zs.getD i 0))) ∧ ∀ n ∈ zs, (Lit.int k n).wf = true

/-- Of the slice a0[:k]: what 'copy' and 'string' read of it, in every later world. -/
structure Src (w : World) (a0 : Option Addr) (k cap0 : Nat) (xs : List Int) : Prop where
  len : xs.length = k
  read : ∀ W, Below w.heap.size w W → Reads W (.slice a0 k cap0) xs
  cells : ∀ W, Below w.heap.size w W → 0 < k → ∃ ad, a0 = some ad ∧ ∀ (j : Nat) (v : Value), (xs.map (Value.int .u8))[j]? = some v → W.cell? (ad.add j) = some v

theorem src_of {w : World} {a0 : Option Addr} {len0 cap0 : Nat} {z0 : List Int} (h : IsRow .u8 w a0 len0 cap0 z0) (k : Nat) (hk : k ≤ len0) : Src w a0 k cap0 (z0.take k) := by
  rcases h with ⟨rfl, rfl, rfl, rfl⟩ | ⟨x, rfl, hlc, hc, hz, hcell, _⟩
  · obtain rfl : k = 0 := by omega
    exact ⟨rfl, fun W _ => reads_zero W none 0, fun W _ h => absurd h (by omega)⟩
  · have hl : (z0.take k).length = k := by simp; omega
    have hget : ∀ i, i < k → (z0.take k).getD i 0 = z0.getD i 0 := by
      intro i hi; simp [List.getD, hi]
    by_cases h0 : k = 0
    · subst h0
      exact ⟨rfl, fun W _ => by simpa using reads_zero W (some x) cap0, fun W _ h => absurd h (by omega)⟩
    · obtain ⟨b, off, rfl, hcc⟩ := ints_at hcell (by omega)
      have hblk : ∀ i, i < k → b < w.heap.size := by
        intro i hi
        have := hcc i (by omega)
        rcases Nat.lt_or_ge b w.heap.size with h | h
        · exact h
        · simp [World.cell?, Array.getElem?_eq_none h] at this
      have hW : ∀ W, Below w.heap.size w W → ∀ i, i < k → W.cell? ⟨b, off + i, none⟩ = some (.int .u8 ((z0.take k).getD i 0)) := by
        intro W hb i hi
        rw [hb.cell (p := ⟨b, off + i, none⟩) (hblk i hi), hget i hi]
        exact hcc i (by omega)
      refine ⟨hl, fun W hb => reads_at W b off k cap0 _ hl (hW W hb), fun W hb _ => ⟨_, rfl, ?_⟩⟩
      intro j v hj
      have hjk : j < k := by
        rcases Nat.lt_or_ge j k with h | h
        · exact h
        · rw [List.getElem?_eq_none (by simp; omega)] at hj; cases hj
      have e : (⟨b, off, none⟩ : Addr).add j = ⟨b, off + j, none⟩ := by unfold Addr.add; split <;> simp_all
      rw [e, hW W hb j hjk]
      rw [List.getElem?_map, List.getElem?_eq_getElem (by omega)] at hj
      simp at hj
      rw [← hj]
      simp [List.getElem?_eq_getElem (show j < z0.length by omega), hjk]
end Go.Proofs.Ybulkcvts

/- strconv.AppendInt at base 10, with an exact frame: a walk of its three functions in this program; the digits come from the shelf's contracts. -/
import Derived.Test.YbulkcvviDoorGrew
import Derived.Shelf.Strconv.AppendUint10
namespace Go.Proofs.YbulkcvviDoor
open Go.RowKit Go.Sort

theorem small71 (u : Nat) (hu : u < 100) (w : World) : Calls Ybad.prog 71 #[.int .i64 u] w fun e w' => e = .returned (.string ⟨(Lib.decDigits u).toArray⟩) ∧ w' = w :=
  Any.internal_strconv_small { Ybad.laysM176 with } u hu w
theorem digits72 (u : Nat) (h1 : 1 ≤ u) (h2 : u < 18446744073709551616) (w : World) (htab : Lib.TabIs Ybad.prog w Ybad.tabN .u64 Lib.pow10Tab) : Calls Ybad.prog 72 #[.int .u64 u] w fun e w' => e = .returned (.int .i64 (Lib.nDigits u)) ∧ w' = w :=
  Any.internal_strconv_numDigits { Ybad.laysM176 with } u h1 h2 w htab
theorem len_small {u : Nat} (hu : u < 100) : (Lib.decDigits u).length ≤ 20 := by
  rw [Lib.decDigits_length]
  by_cases h : u < 10
  · rw [Lib.nDigits_small h]; omega
  · rw [Lib.nDigits_big h, Lib.nDigits_small (show u / 10 < 10 by omega)]; omega

set_option maxHeartbeats 1000000 in
set_option maxRecDepth 100000 in
theorem auint_small (B n u : Nat) (hu : u < 100) (sv : Value) (xs : List Value) (w : World) (hown : w.ownsRow B 5 1 sv n xs) (hBw : B ≤ w.heap.size) (hlim : n + 20 ≤ 140737488355328) :
    Calls Ybad.prog 61 #[sv, .int .u64 u, .int .i64 10] w fun e w' => ∃ v', e = .returned v' ∧ w'.ownsRow B 5 1 v' (n + (Lib.decDigits u).length) (xs ++ Lib.byteCells (Lib.decDigits u)) ∧ Grew sv v' w w' := by
  have hlen := len_small hu
  have hsz : (⟨(Lib.decDigits u).toArray⟩ : ByteArray).size = (Lib.decDigits u).length := by simp [ByteArray.size]
  go_enter Ybad.func61, Ybad.ntmps61
  go_wp2_with (first
    | (go_at_call 71; refine (small71 u hu _).mono ?_; rintro e w' ⟨rfl, rfl⟩)
    | (at_builtin; refine wpList_str_at rfl _ _ rfl B _ _ _ rfl hown ⟨(Lib.decDigits u).toArray⟩ rfl (by rw [hsz]; unfold maxLen; omega) (by rw [hsz]; omega) hBw ?_))
  intro v' w1 hown' hg
  go_wp2
  go_ret
  refine ⟨v', rfl, ?_, hg⟩
  first | exact hown' | (rw [hsz] at hown'; exact hown')

/-- What formatBase10 leaves: the row of digits in a new block, all else as it was. -/
theorem fmt73 (u : Nat) (hu64 : u < 18446744073709551616) (hnd : Lib.nDigits u ≤ 20) (w : World) :
    Calls Ybad.prog 73 #[.slice (some ⟨w.heap.size, 0, none⟩) (Lib.nDigits u) 24, .int .u64 u] (w.alloc (.cells Lib.zeros24 94)) fun e w' =>
      e = .returned (.tuple #[]) ∧ (∀ j u', (Lib.byteCells (Lib.decDigits u))[j]? = some u' → w'.cell? ((⟨w.heap.size, 0, none⟩ : Addr).add j) = some u') ∧ Below w.heap.size w w' := by
  have hH0 := Lib.holds_zero0 w 94 (Lib.nDigits u) (by omega)
  have hfmt := Any.internal_strconv_formatBase10 (P := Ybad.prog) (ρ := Ybad.laysM176_ren) { Ybad.laysM176 with } w.heap.size 0 24 u (Array.replicate (Lib.nDigits u) 0) (w.alloc (.cells Lib.zeros24 94)) hH0 (by rw [Array.size_replicate]; exact Lib.lt_pow_nDigits u) hu64 (by rw [Array.size_replicate]; omega)
  rw [Array.size_replicate] at hfmt
  refine Calls.mono hfmt ?_
  rintro e w' ⟨rfl, k, v', dk, rfl, hF⟩
  refine ⟨rfl, ?_, ?_⟩
  · intro j u' hj
    have hjl : j < (Lib.decDigits u).length := by
      have h5 := (List.getElem?_eq_some_iff.1 hj).1
      rwa [Lib.byteCells_length] at h5
    have e5 : (Lib.byteCells (Lib.decDigits u))[j]? = some (Value.int .u8 ((Lib.decDigits u)[j].toNat : Int)) := by simp [Lib.byteCells, hjl]
    rw [e5] at hj
    cases hj
    rw [Lib.row_is_numeral hF j hjl, Lib.add_plain, World.cell?_drewN]
    exact cell?_putRow (fun (b : UInt8) => Value.int .u8 (b.toNat : Int)) _ w.heap.size 0 _ dk hH0 (by rw [hF.size, Array.size_replicate]) j (by rw [hF.size]; rw [Lib.decDigits_length] at hjl; exact hjl)
  · obtain ⟨os, eo⟩ := Lib.fin_at w (.cells Lib.zeros24 94) dk k 0
    rw [eo]; exact Lib.below_grow w.heap.size w (Nat.le_refl _) k os

set_option maxHeartbeats 2000000 in
set_option maxRecDepth 100000 in
theorem auint_big (B n u : Nat) (hu : 100 ≤ u) (hu64 : u < 18446744073709551616) (sv : Value) (xs : List Value) (w : World) (hown : w.ownsRow B 5 1 sv n xs) (hBw : B ≤ w.heap.size) (hlim : n + 20 ≤ 140737488355328)
    (htab : Lib.TabIs Ybad.prog w Ybad.tabN .u64 Lib.pow10Tab) :
    Calls Ybad.prog 61 #[sv, .int .u64 u, .int .i64 10] w fun e w' => ∃ v', e = .returned v' ∧ w'.ownsRow B 5 1 v' (n + (Lib.decDigits u).length) (xs ++ Lib.byteCells (Lib.decDigits u)) ∧ Grew sv v' w w' := by
  have hu1 : 1 ≤ u := by omega
  have hnd20 : Lib.nDigits u ≤ 20 := by have := Lib.numDigits_eq u hu1 hu64; split at this <;> omega
  have hal : Ybad.prog.arrayLen 94 = 24 := by simp [Program.arrayLen, Ybad.underlying94]
  have hsl : ∀ W, (Instr.sliceAt 94 (.pointer (some ⟨w.heap.size, 0, none⟩)) none (some (.int .i64 (Lib.nDigits u : Int))) none).run Ybad.prog W = .ok (.slice (some ⟨w.heap.size, 0, none⟩) (Lib.nDigits u) 24) W := fun W => by
    rw [run_sliceAt_array_h W 94 ⟨w.heap.size, 0, none⟩ (by simp [Program.arrayLen, Program.elem, Ybad.underlying94]) .i64 (Lib.nDigits u : Int) (by omega) (by rw [hal]; omega)]
    go_simp
  have iu : (100 : Int) ≤ (u : Int) := by omega
  have HT : Hid (Lib.TabIs Ybad.prog w Ybad.tabN .u64 Lib.pow10Tab) := htab
  clear hal htab
  go_enter Ybad.func61, Ybad.ntmps61
  go_wp2_with (go_at_call 72; refine (digits72 u hu1 hu64 _ (Lib.tabIs_alloc HT.out _)).mono ?_; rintro e w' ⟨rfl, rfl⟩)
  go_at_call 73
  refine (fmt73 u hu64 hnd20 w).mono ?_
  rintro e w2 ⟨rfl, hcells, hb⟩
  have hown2 := own_later hown hb
  have hz2 := hb.size
  go_wp2_with (at_builtin; refine wpList_sl_at rfl _ _ rfl B _ _ _ rfl hown2 ⟨w.heap.size, 0, none⟩ (Lib.nDigits u) 24 (Lib.byteCells (Lib.decDigits u)) rfl ?c0 hcells (bytes_one _) ?c3 ?c4 ?c5 ?_)
  case c0 => rw [Lib.byteCells_length, Lib.decDigits_length]
  case c3 => unfold maxLen; omega
  case c4 => omega
  case c5 => omega
  intro v2 w3 hown' hg
  go_wp2
  go_ret
  refine ⟨v2, rfl, ?_, ((Grew.refl _ _).later hb).trans hg⟩
  rw [Lib.decDigits_length]
  exact hown'

theorem auint (B n u : Nat) (hu64 : u < 18446744073709551616) (sv : Value) (xs : List Value) (w : World) (hown : w.ownsRow B 5 1 sv n xs) (hBw : B ≤ w.heap.size) (hlim : n + 20 ≤ 140737488355328)
    (htab : Lib.TabIs Ybad.prog w Ybad.tabN .u64 Lib.pow10Tab) :
    Calls Ybad.prog 61 #[sv, .int .u64 u, .int .i64 10] w fun e w' => ∃ v', e = .returned v' ∧ w'.ownsRow B 5 1 v' (n + (Lib.decDigits u).length) (xs ++ Lib.byteCells (Lib.decDigits u)) ∧ Grew sv v' w w' := by
  by_cases h : u < 100
  · exact auint_small B n u h sv xs w hown hBw hlim
  · exact auint_big B n u (by omega) hu64 sv xs w hown hBw hlim htab

set_option maxHeartbeats 2000000 in
set_option maxRecDepth 100000 in
theorem aint42 (B n : Nat) (i : Int) (h0 : -9223372036854775808 ≤ i) (h1 : i ≤ 9223372036854775807) (sv : Value) (xs : List Value) (w : World) (hown : w.ownsRow B 5 1 sv n xs) (hBw : B ≤ w.heap.size) (hlim : n + 21 ≤ 140737488355328) (htab : Lib.TabBelow Ybad.prog B w Ybad.tabN .u64 Lib.pow10Tab) :
    Calls Ybad.prog 42 #[sv, .int .i64 i, .int .i64 10] w fun e w' => ∃ v', e = .returned v' ∧ w'.ownsRow B 5 1 v' (n + (Lib.itoa i).length) (xs ++ Lib.byteCells (Lib.itoa i)) ∧ Grew sv v' w w' := by
  have HT : Hid (Lib.TabBelow Ybad.prog B w Ybad.tabN .u64 Lib.pow10Tab) := htab
  clear htab
  by_cases hneg : i < 0
  · obtain ⟨u, rfl⟩ : ∃ u : Nat, i = -(u : Int) := ⟨i.natAbs, by omega⟩
    have hu1 : 1 ≤ u := by omega
    have hu64 : u < 18446744073709551616 := by omega
    have hwr : IntKind.u64.wrap (-IntKind.u64.wrap (-(u : Int))) = (u : Int) := by rw [IntKind.wrap_u64, IntKind.wrap_u64]; omega
    rw [Lib.itoa_neg u hu1]
    go_enter Ybad.func42, Ybad.ntmps42
    go_wp2_with (at_builtin; refine wpList_sl_at rfl _ _ rfl B _ _ _ rfl (hown.alloc _) ⟨w.heap.size, 0, none⟩ 1 1 [Value.int .u8 45] rfl rfl (cell_one_new _ _ _) ?a2 ?a3 ?a4 ?a5 ?_)
    case a2 => intro u' hu'; simp at hu'; subst hu'; rfl
    case a3 => unfold maxLen; omega
    case a4 => omega
    case a5 => simp; omega
    intro v1 w1 hown1 hg1
    have hG1 := ((Grew.refl sv w).alloc _).trans hg1
    have hb1 := hG1.below hown hBw
    clear hg1
    go_wp2_with (go_at_call 61; refine (auint B (n + 1) u hu64 v1 _ w1 hown1 (by have := hb1.size; omega) (by omega) (HT.out w1 hb1)).mono ?_; rintro e w2 ⟨v2, rfl, hown2, hg2⟩)
    go_wp2
    go_ret
    refine ⟨v2, rfl, ?_, hG1.trans hg2⟩
    have e1 : n + ((Lib.decDigits u).length + 1) = n + 1 + (Lib.decDigits u).length := by omega
    have e2 : xs ++ Lib.byteCells (45 :: Lib.decDigits u) = xs ++ [Value.int .u8 45] ++ Lib.byteCells (Lib.decDigits u) := by simp [Lib.byteCells]
    rw [e1, e2]
    exact hown2
  · obtain ⟨u, rfl⟩ : ∃ u : Nat, i = u := ⟨i.toNat, by omega⟩
    have hu64 : u < 18446744073709551616 := by omega
    rw [Lib.itoa_nonneg]
    go_enter Ybad.func42, Ybad.ntmps42
    go_wp2_with (go_at_call 61; refine (auint B n u hu64 sv xs w hown hBw (by omega) HT.out.here).mono ?_; rintro e w2 ⟨v2, rfl, hown2, hg2⟩)
    go_wp2
    first | go_ret | go_ret2
    exact ⟨v2, rfl, hown2, hg2⟩

set_option maxRecDepth 100000 in
theorem aint28 (B n : Nat) (i : Int) (h0 : -9223372036854775808 ≤ i) (h1 : i ≤ 9223372036854775807) (sv : Value) (xs : List Value) (w : World) (hown : w.ownsRow B 5 1 sv n xs) (hBw : B ≤ w.heap.size) (hlim : n + 21 ≤ 140737488355328) (htab : Lib.TabBelow Ybad.prog B w Ybad.tabN .u64 Lib.pow10Tab) :
    Calls Ybad.prog 28 #[sv, .int .i64 i, .int .i64 10] w fun e w' => ∃ v', e = .returned v' ∧ w'.ownsRow B 5 1 v' (n + (Lib.itoa i).length) (xs ++ Lib.byteCells (Lib.itoa i)) ∧ Grew sv v' w w' := by
  go_enter Ybad.func28, Ybad.ntmps28
  go_wp2_with (go_at_call 42; refine (aint42 B n i h0 h1 sv xs w hown hBw hlim htab).mono ?_; rintro e w2 ⟨v2, rfl, hown2, hg2⟩)
  go_wp2
  go_ret
  exact ⟨v2, rfl, hown2, hg2⟩
end Go.Proofs.YbulkcvviDoor

/- Slices of lapses; slices.Equal over them. -/
import Derived.Test.YbulkcvteFmtSlices
import Derived.Laws.StructEq
namespace Go.Proofs.YbulkcvteFmt
open Go.RowKit
set_option linter.unusedVariables false

/-- A lapse: the member, how many turns it missed, from where it comes back. -/
structure Lap where
  v : Int
  m : Int
  b : Int
theorem Lap.ext' {x y : Lap} (h1 : x.v = y.v) (h2 : x.m = y.m) (h3 : x.b = y.b) : x = y := by cases x; cases y; simp_all
def Lap.zero : Lap := ⟨0, 0, 0⟩
def Lap.cells (x : Lap) : List Value := [.int .i64 x.v, .int .u16 x.m, .int .u64 x.b]
def lapAt (L : List Lap) (i : Nat) : Lap := L.getD i Lap.zero

/-- The address a holds, element by element, the lapses L. -/
def AtL (w : World) (a : Option Addr) (L : List Lap) : Prop := ∀ i, i < L.length → ∃ b o, a = some ⟨b, o, none⟩ ∧ b < w.heap.size ∧
  w.cell? ⟨b, o + i * 3, none⟩ = some (.int .i64 (lapAt L i).v) ∧ w.cell? ⟨b, o + i * 3 + 1, none⟩ = some (.int .u16 (lapAt L i).m) ∧ w.cell? ⟨b, o + i * 3 + 2, none⟩ = some (.int .u64 (lapAt L i).b)
theorem AtL.later {w w' : World} {a : Option Addr} {L : List Lap} (h : AtL w a L) (hb : Below w.heap.size w w') : AtL w' a L := fun i hi => by
  obtain ⟨b, o, e, hlt, h1, h2, h3⟩ := h i hi
  exact ⟨b, o, e, Nat.lt_of_lt_of_le hlt hb.size, by rw [hb.cell hlt]; exact h1, by rw [hb.cell hlt]; exact h2, by rw [hb.cell hlt]; exact h3⟩
def Laps (w : World) (s : Value) (L : List Lap) : Prop := ∃ a c, s = .slice a L.length c ∧ L.length ≤ c ∧ c ≤ maxLen ∧ AtL w a L
theorem Laps.later {w w' : World} {s : Value} {L : List Lap} (h : Laps w s L) (hb : Below w.heap.size w w') : Laps w' s L := by
  obtain ⟨a, c, e, h1, h2, h3⟩ := h
  exact ⟨a, c, e, h1, h2, h3.later hb⟩
theorem Laps.nil (w : World) : Laps w (.slice none 0 0) [] := ⟨none, 0, rfl, Nat.le_refl _, Nat.zero_le _, fun i hi => absurd hi (Nat.not_lt_zero _)⟩

theorem neq31 (a b c a' b' c' : Int) (w : World) : (binOp .neq 31 (.agg #[.int .i64 a, .int .u16 b, .int .u64 c]) (.agg #[.int .i64 a', .int .u16 b', .int .u64 c'])).run Ybaf.prog w = .ok (.bool (!(a == a' && b == b' && c == c'))) w := by
  have u3 := Ybaf.underlying3
  have a3 := Ybaf.isAgg3
  have z3 := Ybaf.sizeOf3
  have u22 := Ybaf.underlying22
  have a22 := Ybaf.isAgg22
  have z22 := Ybaf.sizeOf22
  have u24 := Ybaf.underlying24
  have a24 := Ybaf.isAgg24
  have z24 := Ybaf.sizeOf24
  have hS : Ybaf.prog.underlying 31 = some (.struct (Ybaf.prog.fieldsOf 31)) := by kernel_rfl
  have hp : Ybaf.prog.stoodInHeld 31 = false := by kernel_rfl
  rw [run_neq_struct, show (10000 : Nat) = 9999 + 1 from rfl, run_equalIn_agg w 9999 31 _ _ hS hp]
  simp only [Program.fieldsOf, Ybaf.underlying31]
  go_simp
  by_cases h1 : a = a' <;> by_cases h2 : b = b' <;> by_cases h3 : c = c' <;> simp [h1, h2, h3]

set_option maxHeartbeats 1000000 in
set_option maxRecDepth 100000 in
theorem equal15 (s t : Value) (L M : List Lap) (w : World) (hs : Laps w s L) (ht : Laps w t M) (hL : L.length ≤ 1048576) (hM : M.length ≤ 1048576) :
    Calls Ybaf.prog 15 #[s, t] w fun e w' => ∃ r : Bool, e = .returned (.bool r) ∧ (r = true ↔ L = M) ∧ Below w.heap.size w w' := by
  obtain ⟨a, c, rfl, _, _, hat⟩ := hs
  obtain ⟨a2, c2, rfl, _, _, hat2⟩ := ht
  have HA : Hid (AtL w a L) := hat
  have HB : Hid (AtL w a2 M) := hat2
  have hg : Ybaf.prog.eqGuardType Ybaf.prog.depth 31 = false := by kernel_rfl
  clear hat hat2
  by_cases hlen : L.length = M.length
  · have HM : Hid (L.length = M.length) := hlen
    rw [← hlen] at hM ⊢
    generalize hn : L.length = n at *
    have HN : Hid (L.length = n) := hn
    clear hn hlen
    go_enter Ybaf.func15, Ybaf.ntmps15
    go_wp2
    go_loopw [5, 13] (fun _ i wr => ∃ k : Nat, k ≤ n ∧ i = .int .i64 k ∧ Below w.heap.size w wr ∧ ∀ j, j < k → lapAt L j = lapAt M j) (fun _ i _ => n - (intOf i).toNat)
    case atStart => exact ⟨0, Nat.zero_le _, rfl, Below.refl _ _, fun j hj => absurd hj (Nat.not_lt_zero _)⟩
    case round =>
      obtain ⟨k, hk, rfl, hb, hne0⟩ := hrel
      have HNE : Hid (∀ j, j < k → lapAt L j = lapAt M j) := hne0
      clear hne0
      by_cases hkn : k < n
      · obtain ⟨b, o, rfl, _, hc1, hc2, hc3⟩ := HA.out.later hb k (by rw [HN.out]; exact hkn)
        obtain ⟨b2, o2, rfl, _, hd1, hd2, hd3⟩ := HB.out.later hb k (by rw [← HM.out]; exact hkn)
        generalize hy : lapAt L k = y at hc1 hc2 hc3
        generalize hz : lapAt M k = z at hd1 hd2 hd3
        have HY : Hid (lapAt L k = y) := hy
        have HZ : Hid (lapAt M k = z) := hz
        clear hy hz
        obtain ⟨y1, y2, y3⟩ := y
        obtain ⟨z1, z2, z3⟩ := z
        have hneq := neq31 y1 y2 y3 z1 z2 z3
        by_cases hyz : (y1 == z1 && y2 == z2 && y3 == z3) = true
        · rw [hyz] at hneq
          go_wp2_with fail
          go_quiet (fail)
          go_wp2
          go_roundw
          case rel =>
            refine ⟨k + 1, by omega, by go_num, below_drewN hb _, fun j hj => ?_⟩
            by_cases e : j = k
            · subst e
              rw [HY.out, HZ.out]
              simp at hyz
              exact Lap.ext' hyz.1.1 hyz.1.2 hyz.2
            · exact HNE.out j (by omega)
          case measure => simp [intOf]; omega
        · have hyz' : (y1 == z1 && y2 == z2 && y3 == z3) = false := by simpa using hyz
          rw [hyz'] at hneq
          go_wp2_with fail
          go_quiet (fail)
          go_wp2
          go_ret
          refine ⟨false, rfl, ⟨fun h => (by cases h), fun e => absurd ?_ hyz⟩, below_drewN hb _⟩
          have e2 := HY.out.symm.trans ((congrArg (fun l => lapAt l k) e).trans HZ.out)
          injection e2 with e3 e4 e5
          simp [e3, e4, e5]
      · obtain rfl : k = n := by omega
        go_wp2
        go_ret
        refine ⟨true, rfl, ⟨fun _ => ?_, fun _ => rfl⟩, hb⟩
        exact List.ext_getElem (HN.out.trans HM.out) (fun i h1 h2 => by
          have := HNE.out i (by rw [← HN.out]; exact h1)
          simpa [lapAt, List.getD, h1, h2] using this)
  · have HE : Hid (¬ L = M) := fun e => hlen (by rw [e])
    go_enter Ybaf.func15, Ybaf.ntmps15
    go_wp2
    go_ret
    exact ⟨false, rfl, ⟨fun h => (by cases h), fun h => absurd h HE.out⟩, Below.refl _ _⟩
end Go.Proofs.YbulkcvteFmt

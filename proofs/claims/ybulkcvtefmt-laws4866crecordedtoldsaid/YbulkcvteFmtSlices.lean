/- slices.Index, Contains at []int and at Set; slices.BinarySearch, Set.has; slices.Equal. -/
import Derived.Test.YbulkcvteFmtBase
namespace Go.Proofs.YbulkcvteFmt
open Go.RowKit
set_option linter.unusedVariables false

theorem Hid.mk {p : Prop} (h : p) : Hid p := h
theorem mem_of_get {L : List Int} {x : Int} {k : Nat} (hk : k < L.length) (h : L.getD k 0 = x) : x ∈ L := by
  subst h
  simp [List.getD, hk]
theorem not_mem_of {L : List Int} {x : Int} (h : ∀ j, j < L.length → L.getD j 0 ≠ x) : x ∉ L := by
  intro hx
  obtain ⟨j, hj, rfl⟩ := List.getElem_of_mem hx
  exact h j hj (by simp [List.getD, hj])

set_option maxHeartbeats 1000000 in
theorem index16 (s : Value) (L : List Int) (x : Int) (w : World) (hs : Ints w s L) (hL : L.length ≤ 1048576) :
    Calls Ybaf.prog 16 #[s, .int .i64 x] w fun e w' => ∃ r : Int, e = .returned (.int .i64 r) ∧ (0 ≤ r ↔ x ∈ L) ∧ w' = w := by
  obtain ⟨a, c, rfl, _, _, hat⟩ := hs
  have HA : Hid (At w a L.length (cellI L)) := hat
  clear hat
  generalize hn : L.length = n at *
  have HN : Hid (L.length = n) := hn
  clear hn
  go_enter Ybaf.func16, Ybaf.ntmps16
  go_wp2
  go_loop [5, 8] (fun _ i => ∃ k : Nat, k ≤ n ∧ i = .int .i64 k ∧ ∀ j, j < k → L.getD j 0 ≠ x) (fun _ i => n - (intOf i).toNat)
  case atStart => exact ⟨0, Nat.zero_le _, rfl, fun j hj => absurd hj (Nat.not_lt_zero _)⟩
  case round =>
    obtain ⟨k, hk, rfl, hne0⟩ := hrel
    have HNE : Hid (∀ j, j < k → L.getD j 0 ≠ x) := hne0
    clear hne0
    by_cases hkn : k < n
    · obtain ⟨b, o, rfl, _, hcell⟩ := HA.out k hkn
      unfold cellI at hcell
      generalize hy : L.getD k 0 = y at hcell
      have HY : Hid (L.getD k 0 = y) := hy
      clear hy
      by_cases hxy : x = y
      · subst hxy
        go_wp2
        go_ret
        refine ⟨_, rfl, ⟨fun _ => mem_of_get (by rw [HN.out]; exact hkn) HY.out, fun _ => by omega⟩, rfl⟩
      · have hxy' : (x == y) = false := by simpa using hxy
        go_wp2
        go_round
        case rel =>
          refine ⟨k + 1, by omega, by go_num, fun j hj => ?_⟩
          by_cases e : j = k
          · subst e; rw [HY.out]; exact fun h => hxy h.symm
          · exact HNE.out j (by omega)
        case measure => simp [intOf]; omega
    · have hkn' : k = n := by omega
      subst hkn'
      go_wp2
      go_ret
      refine ⟨_, rfl, ⟨fun h => by omega, fun h => absurd h (not_mem_of (fun j hj => HNE.out j (by rw [← HN.out]; exact hj)))⟩, rfl⟩

set_option maxHeartbeats 1000000 in
theorem contains4 (s : Value) (L : List Int) (x : Int) (w : World) (hs : Ints w s L) (hL : L.length ≤ 1048576) :
    Calls Ybaf.prog 4 #[s, .int .i64 x] w fun e w' => e = .returned (.bool (decide (x ∈ L))) ∧ w' = w := by
  have HS : Hid (Ints w s L) := hs
  clear hs
  go_enter Ybaf.func4, Ybaf.ntmps4
  go_wp2_with (go_at_call 16; refine (index16 _ _ _ _ HS.out hL).mono ?_; rintro e w' ⟨r, rfl, hr, rfl⟩; have HR := Hid.mk hr; clear hr)
  go_ret
  exact ⟨by have h := HR.out; simp [h], rfl⟩

set_option maxHeartbeats 1000000 in
theorem index25 (s : Value) (L : List Int) (x : Int) (w : World) (hs : Ints w s L) (hL : L.length ≤ 1048576) :
    Calls Ybaf.prog 25 #[s, .int .i64 x] w fun e w' => ∃ r : Int, e = .returned (.int .i64 r) ∧ (0 ≤ r ↔ x ∈ L) ∧ w' = w := by
  obtain ⟨a, c, rfl, _, _, hat⟩ := hs
  have HA : Hid (At w a L.length (cellI L)) := hat
  clear hat
  generalize hn : L.length = n at *
  have HN : Hid (L.length = n) := hn
  clear hn
  go_enter Ybaf.func25, Ybaf.ntmps25
  go_wp2
  go_loop [5, 8] (fun _ i => ∃ k : Nat, k ≤ n ∧ i = .int .i64 k ∧ ∀ j, j < k → L.getD j 0 ≠ x) (fun _ i => n - (intOf i).toNat)
  case atStart => exact ⟨0, Nat.zero_le _, rfl, fun j hj => absurd hj (Nat.not_lt_zero _)⟩
  case round =>
    obtain ⟨k, hk, rfl, hne0⟩ := hrel
    have HNE : Hid (∀ j, j < k → L.getD j 0 ≠ x) := hne0
    clear hne0
    by_cases hkn : k < n
    · obtain ⟨b, o, rfl, _, hcell⟩ := HA.out k hkn
      unfold cellI at hcell
      generalize hy : L.getD k 0 = y at hcell
      have HY : Hid (L.getD k 0 = y) := hy
      clear hy
      by_cases hxy : x = y
      · subst hxy
        go_wp2
        go_ret
        refine ⟨_, rfl, ⟨fun _ => mem_of_get (by rw [HN.out]; exact hkn) HY.out, fun _ => by omega⟩, rfl⟩
      · have hxy' : (x == y) = false := by simpa using hxy
        go_wp2
        go_round
        case rel =>
          refine ⟨k + 1, by omega, by go_num, fun j hj => ?_⟩
          by_cases e : j = k
          · subst e; rw [HY.out]; exact fun h => hxy h.symm
          · exact HNE.out j (by omega)
        case measure => simp [intOf]; omega
    · have hkn' : k = n := by omega
      subst hkn'
      go_wp2
      go_ret
      refine ⟨_, rfl, ⟨fun h => by omega, fun h => absurd h (not_mem_of (fun j hj => HNE.out j (by rw [← HN.out]; exact hj)))⟩, rfl⟩

set_option maxHeartbeats 1000000 in
theorem contains17 (s : Value) (L : List Int) (x : Int) (w : World) (hs : Ints w s L) (hL : L.length ≤ 1048576) :
    Calls Ybaf.prog 17 #[s, .int .i64 x] w fun e w' => e = .returned (.bool (decide (x ∈ L))) ∧ w' = w := by
  have HS : Hid (Ints w s L) := hs
  clear hs
  go_enter Ybaf.func17, Ybaf.ntmps17
  go_wp2_with (go_at_call 25; refine (index25 _ _ _ _ HS.out hL).mono ?_; rintro e w' ⟨r, rfl, hr, rfl⟩; have HR := Hid.mk hr; clear hr)
  go_ret
  exact ⟨by have h := HR.out; simp [h], rfl⟩

/-- Go's binary search: the first place from lo on, below hi, as it is searched. -/
def bsGo (L : List Int) (x : Int) : Nat → Nat → Nat → Nat
  | 0, lo, _ => lo
  | k + 1, lo, hi => if lo < hi then (if L.getD ((lo + hi) / 2) 0 < x then bsGo L x k ((lo + hi) / 2 + 1) hi else bsGo L x k lo ((lo + hi) / 2)) else lo
def bsPos (L : List Int) (x : Int) : Nat := bsGo L x L.length 0 L.length
/-- Set.has: what the binary search finds. -/
def hasB (L : List Int) (x : Int) : Bool := decide (bsPos L x < L.length) && (L.getD (bsPos L x) 0 == x)

theorem bsGo_fuel (L : List Int) (x : Int) : ∀ (k lo hi : Nat), hi - lo ≤ k → bsGo L x (k + 1) lo hi = bsGo L x k lo hi
  | 0, lo, hi, h => by
    have : ¬ lo < hi := by omega
    simp [bsGo, this]
  | k + 1, lo, hi, h => by
    rw [bsGo]
    conv => rhs; rw [bsGo]
    by_cases hlt : lo < hi
    · rw [if_pos hlt, if_pos hlt, bsGo_fuel L x k _ _ (by omega), bsGo_fuel L x k _ _ (by omega)]
    · rw [if_neg hlt, if_neg hlt]
theorem bsGo_step {L : List Int} {x : Int} {lo hi k : Nat} (h : hi - lo ≤ k + 1) (hlt : lo < hi) :
    bsGo L x (k + 1) lo hi = if L.getD ((lo + hi) / 2) 0 < x then bsGo L x k ((lo + hi) / 2 + 1) hi else bsGo L x k lo ((lo + hi) / 2) := by
  rw [bsGo, if_pos hlt]

set_option maxHeartbeats 1000000 in
theorem bsearch38 (s : Value) (L : List Int) (x : Int) (w : World) (hs : Ints w s L) (hL : L.length ≤ 1048576) :
    Calls Ybaf.prog 38 #[s, .int .i64 x] w fun e w' => e = .returned (.tuple #[.int .i64 (bsPos L x), .bool (hasB L x)]) ∧ w' = w := by
  obtain ⟨a, c, rfl, _, _, hat⟩ := hs
  have HA : Hid (At w a L.length (cellI L)) := hat
  clear hat
  generalize hn : L.length = n at *
  have HN : Hid (L.length = n) := hn
  clear hn
  go_enter Ybaf.func38, Ybaf.ntmps38
  go_wp2
  go_loop [7, 8, 9] (fun p q _ => ∃ lo hi : Nat, lo ≤ hi ∧ hi ≤ n ∧ p = .int .i64 lo ∧ q = .int .i64 hi ∧ ∃ k, hi - lo ≤ k ∧ bsGo L x k lo hi = bsPos L x) (fun p q _ => ((intOf q) - (intOf p)).toNat)
  case atStart => exact ⟨0, n, Nat.zero_le _, Nat.le_refl _, rfl, rfl, n, by omega, by unfold bsPos; rw [HN.out]⟩
  case round =>
    obtain ⟨lo, hi, hlh, hhn, rfl, rfl, k, hk, hbs⟩ := hrel
    have HB : Hid (bsGo L x k lo hi = bsPos L x) := hbs
    clear hbs
    by_cases hlt : lo < hi
    · obtain ⟨m, hm⟩ : ∃ m, m = (lo + hi) / 2 := ⟨_, rfl⟩
      have hm1 : lo ≤ m := by omega
      have hm2 : m < hi := by omega
      have hcv : ((lo : Int) + hi) / 2 = m := by omega
      obtain ⟨b, o, rfl, _, hcell⟩ := HA.out m (by omega)
      unfold cellI at hcell
      generalize hy : L.getD m 0 = y at hcell
      have HY : Hid (L.getD m 0 = y) := hy
      have HM : Hid (m = (lo + hi) / 2) := hm
      clear hy hm
      obtain ⟨k, rfl⟩ : ∃ k', k = k' + 1 := ⟨k - 1, by omega⟩
      by_cases hyx : y < x
      · have hyx' : decide (y < x) = true := by simpa using hyx
        go_wp2
        go_round
        case rel =>
          refine ⟨m + 1, hi, by omega, hhn, by go_num, by go_num, k, by omega, ?_⟩
          rw [← HB.out, bsGo_step hk hlt, ← HM.out, HY.out, if_pos hyx]
        case measure => simp [intOf]; omega
      · have hyx' : decide (y < x) = false := by simpa using hyx
        go_wp2
        go_round
        case rel =>
          refine ⟨lo, m, by omega, by omega, by go_num, by go_num, k, by omega, ?_⟩
          rw [← HB.out, bsGo_step hk hlt, ← HM.out, HY.out, if_neg hyx]
        case measure => simp [intOf]; omega
    · obtain rfl : lo = hi := by omega
      have hpos : bsPos L x = lo := by
        rw [← HB.out]
        cases k with
        | zero => rfl
        | succ k => rw [bsGo, if_neg (Nat.lt_irrefl _)]
      have HP : Hid (bsPos L x = lo) := hpos
      clear hpos
      by_cases hln : lo < n
      · obtain ⟨b, o, rfl, _, hcell⟩ := HA.out lo hln
        unfold cellI at hcell
        generalize hy : L.getD lo 0 = y at hcell
        have HY : Hid (L.getD lo 0 = y) := hy
        clear hy
        by_cases hyx : y = x
        · subst hyx
          go_wp2
          go_ret2
          refine ⟨?_, rfl⟩
          have h1 := HP.out
          have h2 := HN.out
          have h3 := HY.out
          simp only [hasB, h1, h2, h3, hln]
          simp
        · have hyx' : (y == x) = false := by simpa using hyx
          go_wp2
          go_ret2
          refine ⟨?_, rfl⟩
          have h1 := HP.out
          have h2 := HN.out
          have h3 := HY.out
          simp only [hasB, h1, h2, h3, hln, hyx']
          simp
      · go_wp2
        go_ret2
        refine ⟨?_, rfl⟩
        have h1 := HP.out
        have h2 := HN.out
        simp only [hasB, h1, h2, hln]
        simp

set_option maxHeartbeats 1000000 in
theorem has30 (s : Value) (L : List Int) (x : Int) (w : World) (hs : Ints w s L) (hL : L.length ≤ 1048576) :
    Calls Ybaf.prog 30 #[s, .int .i64 x] w fun e w' => e = .returned (.bool (hasB L x)) ∧ w' = w := by
  have HS : Hid (Ints w s L) := hs
  clear hs
  go_enter Ybaf.func30, Ybaf.ntmps30
  go_wp2_with (go_at_call 38; refine (bsearch38 _ _ _ _ HS.out hL).mono ?_; rintro e w' ⟨rfl, rfl⟩)
  go_ret
  exact ⟨rfl, rfl⟩

set_option maxHeartbeats 1000000 in
theorem equal13 (s t : Value) (L M : List Int) (w : World) (hs : Ints w s L) (ht : Ints w t M) (hL : L.length ≤ 1048576) (hM : M.length ≤ 1048576) :
    Calls Ybaf.prog 13 #[s, t] w fun e w' => e = .returned (.bool (decide (L = M))) ∧ Below w.heap.size w w' := by
  obtain ⟨a, c, rfl, _, _, hat⟩ := hs
  obtain ⟨a2, c2, rfl, _, _, hat2⟩ := ht
  have HA : Hid (At w a L.length (cellI L)) := hat
  have HB : Hid (At w a2 M.length (cellI M)) := hat2
  clear hat hat2
  by_cases hlen : L.length = M.length
  · have HM : Hid (L.length = M.length) := hlen
    rw [← hlen] at HB hM ⊢
    generalize hn : L.length = n at *
    have HN : Hid (L.length = n) := hn
    clear hn hlen
    go_enter Ybaf.func13, Ybaf.ntmps13
    go_wp2
    go_loopw [5, 13] (fun _ i wr => ∃ k : Nat, k ≤ n ∧ i = .int .i64 k ∧ Below w.heap.size w wr ∧ ∀ j, j < k → L.getD j 0 = M.getD j 0) (fun _ i _ => n - (intOf i).toNat)
    case atStart => exact ⟨0, Nat.zero_le _, rfl, Below.refl _ _, fun j hj => absurd hj (Nat.not_lt_zero _)⟩
    case round =>
      obtain ⟨k, hk, rfl, hb, hne0⟩ := hrel
      have HNE : Hid (∀ j, j < k → L.getD j 0 = M.getD j 0) := hne0
      clear hne0
      by_cases hkn : k < n
      · obtain ⟨b, o, rfl, _, hcell⟩ := HA.out.later hb k hkn
        obtain ⟨b2, o2, rfl, _, hcell2⟩ := HB.out.later hb k hkn
        unfold cellI at hcell hcell2
        generalize hy : L.getD k 0 = y at hcell
        generalize hz : M.getD k 0 = z at hcell2
        have HY : Hid (L.getD k 0 = y) := hy
        have HZ : Hid (M.getD k 0 = z) := hz
        clear hy hz
        by_cases hyz : y = z
        · subst hyz
          go_wp2_with fail
          go_quiet (fail)
          go_wp2
          go_roundw
          case rel =>
            refine ⟨k + 1, by omega, by go_num, below_drewN hb _, fun j hj => ?_⟩
            by_cases e : j = k
            · subst e; rw [HY.out, HZ.out]
            · exact HNE.out j (by omega)
          case measure => simp [intOf]; omega
        · have hyz' : (y == z) = false := by simpa using hyz
          go_wp2_with fail
          go_quiet (fail)
          go_wp2
          go_ret
          refine ⟨?_, below_drewN hb _⟩
          have : L ≠ M := fun e => hyz (by rw [← HY.out, ← HZ.out, e])
          simp [this]
      · obtain rfl : k = n := by omega
        go_wp2
        go_ret
        refine ⟨?_, hb⟩
        have : L = M := List.ext_getElem (HN.out.trans HM.out) (fun i h1 h2 => by
          have := HNE.out i (by rw [← HN.out]; exact h1)
          simpa [List.getD, h1, h2] using this)
        simp [this]
  · have HE : Hid (¬ L = M) := fun e => hlen (by rw [e])
    go_enter Ybaf.func13, Ybaf.ntmps13
    go_wp2
    go_ret
    exact ⟨by have := HE.out; simp [this], Below.refl _ _⟩

set_option maxHeartbeats 1000000 in
theorem equal14 (s t : Value) (L M : List Int) (w : World) (hs : Ints w s L) (ht : Ints w t M) (hL : L.length ≤ 1048576) (hM : M.length ≤ 1048576) :
    Calls Ybaf.prog 14 #[s, t] w fun e w' => e = .returned (.bool (decide (L = M))) ∧ Below w.heap.size w w' := by
  obtain ⟨a, c, rfl, _, _, hat⟩ := hs
  obtain ⟨a2, c2, rfl, _, _, hat2⟩ := ht
  have HA : Hid (At w a L.length (cellI L)) := hat
  have HB : Hid (At w a2 M.length (cellI M)) := hat2
  clear hat hat2
  by_cases hlen : L.length = M.length
  · have HM : Hid (L.length = M.length) := hlen
    rw [← hlen] at HB hM ⊢
    generalize hn : L.length = n at *
    have HN : Hid (L.length = n) := hn
    clear hn hlen
    go_enter Ybaf.func14, Ybaf.ntmps14
    go_wp2
    go_loopw [5, 13] (fun _ i wr => ∃ k : Nat, k ≤ n ∧ i = .int .i64 k ∧ Below w.heap.size w wr ∧ ∀ j, j < k → L.getD j 0 = M.getD j 0) (fun _ i _ => n - (intOf i).toNat)
    case atStart => exact ⟨0, Nat.zero_le _, rfl, Below.refl _ _, fun j hj => absurd hj (Nat.not_lt_zero _)⟩
    case round =>
      obtain ⟨k, hk, rfl, hb, hne0⟩ := hrel
      have HNE : Hid (∀ j, j < k → L.getD j 0 = M.getD j 0) := hne0
      clear hne0
      by_cases hkn : k < n
      · obtain ⟨b, o, rfl, _, hcell⟩ := HA.out.later hb k hkn
        obtain ⟨b2, o2, rfl, _, hcell2⟩ := HB.out.later hb k hkn
        unfold cellI at hcell hcell2
        generalize hy : L.getD k 0 = y at hcell
        generalize hz : M.getD k 0 = z at hcell2
        have HY : Hid (L.getD k 0 = y) := hy
        have HZ : Hid (M.getD k 0 = z) := hz
        clear hy hz
        by_cases hyz : y = z
        · subst hyz
          go_wp2_with fail
          go_quiet (fail)
          go_wp2
          go_roundw
          case rel =>
            refine ⟨k + 1, by omega, by go_num, below_drewN hb _, fun j hj => ?_⟩
            by_cases e : j = k
            · subst e; rw [HY.out, HZ.out]
            · exact HNE.out j (by omega)
          case measure => simp [intOf]; omega
        · have hyz' : (y == z) = false := by simpa using hyz
          go_wp2_with fail
          go_quiet (fail)
          go_wp2
          go_ret
          refine ⟨?_, below_drewN hb _⟩
          have : L ≠ M := fun e => hyz (by rw [← HY.out, ← HZ.out, e])
          simp [this]
      · obtain rfl : k = n := by omega
        go_wp2
        go_ret
        refine ⟨?_, hb⟩
        have : L = M := List.ext_getElem (HN.out.trans HM.out) (fun i h1 h2 => by
          have := HNE.out i (by rw [← HN.out]; exact h1)
          simpa [List.getD, h1, h2] using this)
        simp [this]
  · have HE : Hid (¬ L = M) := fun e => hlen (by rw [e])
    go_enter Ybaf.func14, Ybaf.ntmps14
    go_wp2
    go_ret
    exact ⟨by have := HE.out; simp [this], Below.refl _ _⟩
end Go.Proofs.YbulkcvteFmt

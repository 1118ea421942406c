/- Who speaks: the law's own function, and the program's position. -/
import Derived.Test.YbulkcvteFmtLaps
namespace Go.Proofs.YbulkcvteFmt
open Go.RowKit
set_option linter.unusedVariables false

/-- (h - v) mod n. -/
def spos (n h v : Nat) : Nat := if v % n ≤ h % n then h % n - v % n else h % n + n - v % n
theorem spos_lt {n h v : Nat} (hn : 0 < n) : spos n h v < n := by
  unfold spos
  have h1 := Nat.mod_lt h hn
  have h2 := Nat.mod_lt v hn
  split <;> omega
theorem spos_eq {n h v : Nat} (hn : 0 < n) : (h % n + n - v % n) % n = spos n h v := by
  unfold spos
  have h1 := Nat.mod_lt h hn
  have h2 := Nat.mod_lt v hn
  split
  · rw [show h % n + n - v % n = (h % n - v % n) + n by omega, Nat.add_mod_right, Nat.mod_eq_of_lt (by omega)]
  · rw [Nat.mod_eq_of_lt (by omega)]

set_option maxRecDepth 100000 in
set_option maxHeartbeats 1000000 in
theorem speaker12 (s : Value) (L : List Int) (h v : Nat) (w : World) (hs : Ints w s L) (hL : L.length ≤ 1048576) (h0 : 0 < L.length) (hh : h < 18446744073709551616) (hv : v < 4294967296) :
    Calls Ybaf.prog 12 #[s, .int .u64 h, .int .u32 v] w fun e w' => e = .returned (.int .i64 (L.getD (spos L.length h v) 0)) ∧ w' = w := by
  obtain ⟨a, c, rfl, _, _, hat⟩ := hs
  obtain ⟨b, o, rfl, _, hcell⟩ := hat _ (spos_lt (h := h) (v := v) h0)
  unfold cellI at hcell
  clear hat
  generalize hy : L.getD (spos L.length h v) 0 = y at *
  clear hy
  generalize hn : L.length = n at *
  have h1 := Nat.mod_lt h h0
  have h2 := Nat.mod_lt v h0
  have n0 : ((n : Int) == 0) = false := by simp; omega
  have e1 : ((h : Int) % n) = ((h % n : Nat) : Int) := by simp
  have e2 : ((v : Int) % n) = ((v % n : Nat) : Int) := by simp
  have e3 : Int.tmod (h : Int) n = ((h % n : Nat) : Int) := by rw [Int.tmod_eq_emod_of_nonneg (by omega)]; simp
  have e4 : Int.tmod (v : Int) n = ((v % n : Nat) : Int) := by rw [Int.tmod_eq_emod_of_nonneg (by omega)]; simp
  by_cases hc : v % n ≤ h % n
  · have hp : spos n h v = h % n - v % n := by unfold spos; rw [if_pos hc]
    rw [hp] at hcell
    clear hp hn
    generalize hA : h % n = A at *
    generalize hB : v % n = B at *
    clear hA hB
    go_enter Ybaf.func12, Ybaf.ntmps12
    go_wp2
    go_ret
    exact ⟨rfl, rfl⟩
  · have hp : spos n h v = h % n + n - v % n := by unfold spos; rw [if_neg hc]
    rw [hp] at hcell
    clear hp hn
    generalize hA : h % n = A at *
    generalize hB : v % n = B at *
    clear hA hB
    go_enter Ybaf.func12, Ybaf.ntmps12
    go_wp2
    go_ret
    exact ⟨rfl, rfl⟩

set_option maxRecDepth 100000 in
set_option maxHeartbeats 1000000 in
theorem position36 (n h v : Nat) (w : World) (hn : 0 < n) (hn2 : n ≤ 1048576) (hh : h < 18446744073709551616) (hv : v < 4294967296) :
    Calls Ybaf.prog 36 #[.int .i64 n, .int .u64 h, .int .u32 v] w fun e w' => e = .returned (.int .i64 (spos n h v)) ∧ ∃ q, w' = w.drewN q := by
  have h1 := Nat.mod_lt h hn
  have h2 := Nat.mod_lt v hn
  have hE := spos_eq (h := h) (v := v) hn
  have n0 : ((n : Int) == 0) = false := by simp; omega
  have e1 : ((h : Int) % n) = ((h % n : Nat) : Int) := by simp
  have e2 : ((v : Int) % n) = ((v % n : Nat) : Int) := by simp
  have e3 : Int.tmod (h : Int) n = ((h % n : Nat) : Int) := by rw [Int.tmod_eq_emod_of_nonneg (by omega)]; simp
  have e4 : Int.tmod (v : Int) n = ((v % n : Nat) : Int) := by rw [Int.tmod_eq_emod_of_nonneg (by omega)]; simp
  rw [← hE]
  clear hE
  generalize hA : h % n = A at *
  generalize hB : v % n = B at *
  clear hA hB
  have e5 : (((A + n - B) % n : Nat) : Int) = ((A : Int) + n - B) % n := by
    rw [Int.natCast_emod, Int.ofNat_sub (by omega)]
    simp
  have e6 : (A + n - B) % n < n := Nat.mod_lt _ hn
  have HE : Hid ((((A + n - B) % n : Nat) : Int) = ((A : Int) + n - B) % n) := e5
  clear e5
  go_enter Ybaf.func36, Ybaf.ntmps36
  go_wp2_with fail
  go_quiet (fail)
  go_wp2
  go_ret
  refine ⟨?_, _, rfl⟩
  have e5 := HE.out
  rw [e5]
  generalize ((A : Int) + n - B) % n = z at *
  have e7 : wrap64 z = z := by unfold wrap64; omega
  rw [e7]
  rfl
end Go.Proofs.YbulkcvteFmt

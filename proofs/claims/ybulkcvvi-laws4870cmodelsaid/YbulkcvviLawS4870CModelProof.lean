/- The proof of 'Rows.LawS4870CModelSaid': the guide's frame at this function's number and types; the walk lies in YbulkcvviLaw. -/
import Derived.Test.YbulkcvviRows
import Derived.WalkKit
import Derived.ProofKit
import Derived.OpenShut
import Derived.ShutString
import Derived.ChangeOld
import Derived.Below
import Derived.Deep.SlicePairs
import Derived.Test.YbulkcvviLaw
namespace Go.Proofs.Ybulkcvvi.lawS4870CModel
open Go.ChangeShapes Go.WideShapes Go.ChangeAt Go.RowKit Go.Deep

theorem own : ownKnob Yba.prog.godebug = none := by kernel_rfl
theorem laidOut : laidOutB Yba.prog = true := by kernel_rfl
theorem cells28 : Yba.prog.cellsOf 28 = 1 := by kernel_rfl
theorem cells4 : Yba.prog.cellsOf 4 = 1 := by kernel_rfl
theorem cells45 : Yba.prog.cellsOf 45 = 2 := by kernel_rfl
theorem cells5 : Yba.prog.cellsOf 5 = 1 := by kernel_rfl

/-- What the walk is told of the transactions that came in. -/
def IsTxns (w : World) (a0 : Option Addr) (len : Nat) (E : Nat → Bool) : Prop :=
  0 < len → ∃ b o, a0 = some ⟨b, o, none⟩ ∧ ∀ W, Below w.heap.size w W → ∀ i, i < len → W.cell? ⟨b, o + i, none⟩ = some (.bool (E i))
/-- What the walk is told of the places that came in. -/
def IsPlaces (w : World) (a1 : Option Addr) (len : Nat) (Wh : Nat → Nat) (S : Nat → Bool) : Prop :=
  (∀ i, Wh i < 256) ∧ (0 < len → ∃ b o, a1 = some ⟨b, o, none⟩ ∧ ∀ W, Below w.heap.size w W → ∀ i, i < len → W.cell? ⟨b, o + i * 2, none⟩ = some (.int .u8 (Wh i : Int)) ∧ W.cell? ⟨b, o + i * 2 + 1, none⟩ = some (.bool (S i)))

theorem plain_at {w : World} {a : Addr} {v : Value} (h : w.cell? (a.add 0) = some v) : ∃ b o, a = ⟨b, o, none⟩ := by
  obtain ⟨b, off, spot⟩ := a
  have hspot : spot = none := by simpa [Addr.add] using World.cell?_spot h
  subst hspot
  exact ⟨b, off, rfl⟩
theorem lt_of_cell {w : World} {b o : Nat} {v : Value} (h : w.cell? ⟨b, o, none⟩ = some v) : b < w.heap.size := by
  rcases Nat.lt_or_ge b w.heap.size with h' | h'
  · exact h'
  · simp [World.cell?, Array.getElem?_eq_none h'] at h

theorem txns_of {H : Type} {enc : TypeId × Value → H} {w : World} {spare : Nat → Bool} {held : Bool} {fuel : Nat} {a0 : Option Addr} {len cap : Nat} {x : DataW H × List MemPlace}
    (h : DataW.trod enc Yba.prog w 0 spare held fuel 22 (Value.slice a0 len cap).cells.toList = some x) : ∃ E, IsTxns w a0 len E := by
  rcases open_slice1 Yba.underlying22 cells28 h with ⟨hcs, _⟩ | ⟨a, l, c, m, n, V, D, Pl, hcs, _, hl, _, hm, _, hx⟩
  · simp [Value.cells] at hcs
    obtain ⟨_, rfl, _⟩ := hcs
    exact ⟨fun _ => false, fun h => absurd h (by omega)⟩
  · simp [Value.cells] at hcs
    obtain ⟨rfl, rfl, rfl⟩ := hcs
    have hlm : len ≤ m := by rw [hm]; split <;> omega
    refine ⟨fun i => match V i with | .bool b => b | _ => false, fun h0 => ?_⟩
    obtain ⟨b, o, rfl⟩ := plain_at (hx 0 (by omega)).1
    refine ⟨b, o, rfl, fun W hb i hi => ?_⟩
    obtain ⟨hc, ht⟩ := hx i (by omega)
    obtain ⟨y0, k, _, _, h2⟩ := trod_struct1 Yba.underlying28 ht
    rw [cells4] at h2
    obtain ⟨e, he, _⟩ := DataW.trod_bool Yba.underlying4 h2
    simp at he
    rw [Go.WideShapes.add_plain] at hc
    rw [hb.cell (p := ⟨b, o + i, none⟩) (lt_of_cell hc), hc]
    simp [he]

theorem places_of {H : Type} {enc : TypeId × Value → H} {w : World} {spare : Nat → Bool} {held : Bool} {fuel : Nat} {a1 : Option Addr} {len cap : Nat} {x : DataW H × List MemPlace}
    (h : DataW.trod enc Yba.prog w 0 spare held fuel 23 (Value.slice a1 len cap).cells.toList = some x) : ∃ Wh S, IsPlaces w a1 len Wh S := by
  rcases open_slice_pairs Yba.underlying23 Yba.underlying45 cells45 rfl rfl cells5 cells4 h with ⟨hcs, _⟩ | ⟨a, l, c, m, n, V0, V1, D0, D1, P0, P1, hcs, _, hl, _, hm, _, hx⟩
  · simp [Value.cells] at hcs
    obtain ⟨_, rfl, _⟩ := hcs
    exact ⟨fun _ => 0, fun _ => false, fun _ => by simp, fun h => absurd h (by omega)⟩
  · simp [Value.cells] at hcs
    obtain ⟨rfl, rfl, rfl⟩ := hcs
    have hlm : len ≤ m := by rw [hm]; split <;> omega
    refine ⟨fun i => (match V0 i with | .int _ k => k.toNat | _ => 0) % 256, fun i => match V1 i with | .bool b => b | _ => false, fun i => Nat.mod_lt _ (by decide), fun h0 => ?_⟩
    obtain ⟨b, o, rfl⟩ := plain_at (by simpa using (hx 0 (by omega)).1)
    refine ⟨b, o, rfl, fun W hb i hi => ?_⟩
    obtain ⟨hc0, hc1, ht0, ht1⟩ := hx i (by omega)
    obtain ⟨k, hk, _, hwf⟩ := DataW.trod_int Yba.underlying5 ht0
    obtain ⟨e, he, _⟩ := DataW.trod_bool Yba.underlying4 ht1
    obtain ⟨b1, b2⟩ := bounds_u8 hwf
    simp at hk he
    rw [Go.WideShapes.add_plain] at hc0 hc1
    refine ⟨?_, ?_⟩
    · rw [hb.cell (p := ⟨b, o + i * 2, none⟩) (lt_of_cell hc0), hc0]
      simp [hk]
      omega
    · rw [hb.cell (p := ⟨b, o + i * 2 + 1, none⟩) (lt_of_cell hc1), show o + i * 2 + 1 = o + (i * 2 + 1) by omega, hc1]
      simp [he]

set_option maxRecDepth 100000 in
set_option maxHeartbeats 1000000 in
theorem walk (a0 a1 : Option Addr) (len0 cap0 len1 cap1 : Nat) (all : Bool) (E S : Nat → Bool) (Wh : Nat → Nat) (w : World) (h0 : IsTxns w a0 len0 E) (h1 : IsPlaces w a1 len1 Wh S) :
    Calls Yba.prog 3 #[.slice a0 len0 cap0, .slice a1 len1 cap1, .bool all] w fun e w' => e = .returned (.bool true) ∧ Below w.heap.size w w' := by
  by_cases l0 : len0 ≤ 1024
  · by_cases l1 : len1 ≤ 1024
    · exact law a0 a1 len0 cap0 len1 cap1 _ all E S Wh w l0 l1 rfl h0 h1.2 h1.1
    · have l1' : 1024 < len1 := by omega
      clear h0 h1
      go_enter Yba.func3, Yba.ntmps3
      go_wp2
      go_ret
      exact ⟨rfl, Below.refl _ _⟩
  · have l0' : 1024 < len0 := by omega
    clear h0 h1
    go_enter Yba.func3, Yba.ntmps3
    go_wp2
    go_ret
    exact ⟨rfl, Below.refl _ _⟩

set_option maxRecDepth 100000 in
theorem lifted (os : Os) (started : os.Started) (H : Type) (enc : TypeId × Value → H) :
    ReturnsInHanded {} Yba.checked os 3 .any (Rows.lawS4870CModelSpec.pre6 enc Yba.prog Yba.f3 Rows.lawS4870CModelRow.domain false) (Rows.lawS4870CModelSpec.post enc Yba.prog Yba.f3 false true false false) := by
  refine returnsInHanded_of_change (C := Yba.checked) own started (by kernel_rfl) Yba.func3
    (ChangeSpec.witness6 (enc := enc) (C := Yba.checked) false ⟨#[], #[.slice none 0 0, .slice none 0 0, .bool false], []⟩ 8 (by kernel_rfl) (by kernel_rfl) (by kernel_rfl) (by kernel_rfl)) ?_
  intro W base args ds gs before hval0 hW hcnd _
  have hval : ∀ (j : Nat) t v, Yba.f3.params[j]? = some t → args[j]? = some v → Value.okWide Yba.prog W .any base t v := hval0
  have hW' := hW
  obtain ⟨p, q, hA0, hV, rfl, hfz, hnd⟩ := hW
  have hA : DataW.TrodAll enc Yba.prog W 0 (fun _ => true) true Yba.f3.params.toList args.toList ds p := hA0
  rw [Yba.params3] at hA hval
  obtain ⟨v0, vs0, d0, ds0, p0, q0, hargs, rfl, rfl, h0, r0⟩ := trodAll_cons hA
  obtain ⟨v1, vs1, d1, ds1, p1, q1, rfl, rfl, rfl, h1, r1⟩ := trodAll_cons r0
  obtain ⟨v2, vs2, d2, ds2, p2, q2, rfl, rfl, rfl, h2, r2⟩ := trodAll_cons r1
  obtain ⟨rfl, rfl, rfl⟩ := trodAll_nil r2
  obtain rfl : args = #[v0, v1, v2] := by cases args; simp_all
  obtain ⟨rfl, rfl⟩ := trodVars_none hV
  obtain ⟨a0, len0, cap0, rfl⟩ := okWide_slice Yba.underlying22 (hval 0 22 v0 rfl rfl)
  obtain ⟨a1, len1, cap1, rfl⟩ := okWide_slice Yba.underlying23 (hval 1 23 v1 rfl rfl)
  have k0 := h0
  have k1 := h1
  have lt0 : ∀ x ∈ p0, x.block < W.heap.size := by obtain ⟨m, hm⟩ := k0; exact DataW.trod_lt m _ _ _ hm
  have lt1 : ∀ x ∈ p1, x.block < W.heap.size := by obtain ⟨m, hm⟩ := k1; exact DataW.trod_lt m _ _ _ hm
  obtain ⟨E, w0⟩ : ∃ E, IsTxns W a0 len0 E := by obtain ⟨fuel, hf⟩ := h0; exact txns_of hf
  obtain ⟨Wh, S, w1⟩ : ∃ Wh S, IsPlaces W a1 len1 Wh S := by obtain ⟨fuel, hf⟩ := h1; exact places_of hf
  obtain ⟨a2, rfl, rfl, rfl⟩ := open_bool Yba.underlying4 (hval 2 4 v2 rfl rfl) h2
  clear hA0 hval0
  refine (walk a0 a1 len0 cap0 len1 cap1 a2 E S Wh W w0 w1).mono fun e W' ⟨he, bel⟩ => ?_
  subst he
  exact ⟨_, rfl, _, _, _, [], _, [], hW', trodAll_mk1 (shut_bool Yba.underlying4 _), (trodAll_cons_mk (Below.trod laidOut (by kernel_rfl) (of_decide_eq_true (by kernel_rfl)) k0 bel lt0) (trodAll_cons_mk (Below.trod laidOut (by kernel_rfl) (of_decide_eq_true (by kernel_rfl)) k1 bel lt1) (trodAll_cons_mk (shut_bool Yba.underlying4 _) trodAll_mk0))), rfl, bel.frame _, fun h => by cases h⟩

theorem over : Rows.lawS4870CModelRow.holds Yba.pinned (OpenSpec.ofChange Rows.lawS4870CModelSpec) :=
  OpenClaim.holds_of_wide 3 Yba.f3 rfl rfl rfl rfl rfl rfl rfl ⟨rfl, rfl, rfl, rfl, rfl⟩ rfl rfl rfl rfl rfl (by kernel_rfl) Yba.func3 (by kernel_rfl)
    (of_decide_eq_true (by kernel_rfl)) (by unfold Func.isWrapper; first | (rw [if_pos (by decide +kernel)]; kernel_rfl) | (rw [if_neg (by decide +kernel)]; exact ⟨rfl, rfl⟩))
    (fun os started H enc _ => lifted os started H enc)

/-- THE STATEMENT -/
theorem proved : Rows.LawS4870CModelSaid := over
end Go.Proofs.Ybulkcvvi.lawS4870CModel

/- The proof of 'Rows.LawS4870BOrderCardSaid': the row (its laid table turned to the contract's fact; its walk out of the walk of this folder), then the tied card. -/
import Derived.Test.YbulkcvviDoorRows
import Derived.Test.YbulkcvviDoorTie
import Derived.Test.YbulkcvviDoorCards
import Derived.Test.YbulkcvviDoorOrderWalk
import Derived.WalkKit
import Derived.ProofKit
import Derived.OpenShut
import Derived.ShutString
import Derived.ChangeOld
import Derived.Below
import Derived.LaidMore
import Derived.LaidHandle
import Derived.Stop.Joined
import Derived.SevenTiedAt
import Derived.Lib.LaidTab
namespace Go.Proofs.YbulkcvviDoor.lawS4870BOrder
open Go.ChangeShapes Go.WideShapes Go.ChangeAt Go.RowKit
open Go.ChangeMaps (open_string shut_string)
set_option linter.unusedVariables false

theorem own : ownKnob Ybad.prog.godebug = none := by kernel_rfl
theorem laidOut : laidOutB Ybad.prog = true := by kernel_rfl
theorem gTab : Ybad.prog.globalNamed Ybad.tabN = some 0 := by kernel_rfl
theorem tTab : (Ybad.prog.globals[0]?).map (·.type) = some 174 := by kernel_rfl
theorem c93 : Ybad.prog.cellsOf 93 = 1 := by kernel_rfl
theorem c174 : Ybad.prog.cellsOf 174 = 20 := by kernel_rfl

/-- The row's condition. -/
def lay : List (String × DataW Unit) := Rows.lawS4870BOrderRow.laid

theorem tail' {P : Program} {x : String × DataW Unit} {r : List (String × DataW Unit)} {w : World} (h : laidMet P (x :: r) w) : laidMet P r w := by
  obtain ⟨ps, hv, hnd, hrows⟩ := h
  obtain ⟨n, d⟩ := x
  obtain ⟨g, t, cs, fuel, p, q, _, _, _, _, hq, rfl⟩ := hv
  exact ⟨q, hq, List.Nodup.sublist (List.sublist_append_right _ _) hnd, fun b off hm => hrows b off (List.mem_append_right _ hm)⟩

/-- What the row's condition gives the walks. -/
theorem of_laid {W : World} (h : laidMetH Ybad.prog lay W) : Lib.TabIs Ybad.prog W Ybad.tabN .u64 Lib.pow10Tab := by
  rw [MakeChecks.laidMetH_plain _ _ _ (by kernel_rfl)] at h
  have h2 : laidMet Ybad.prog ((Ybad.tabN, Lib.tabData .u64 Lib.pow10Tab) :: []) W := tail' (tail' h)
  exact Lib.tabIs_of_head gTab tTab Ybad.underlying174 Ybad.underlying93 c93 c174 h2

/-- The door's own heap meets the condition. -/
theorem door_met (os : Os) (args : Array Value) : laidMetH Ybad.prog lay ((World.doorLaid Ybad.prog 400 os).forCall (fun _ _ => 0) ⟨#[], args, []⟩).memory :=
  laidMetH_of_parts3 (fuel := 8) (laidMet_of_run' 8 (by kernel_rfl) (by kernel_rfl)) (by kernel_rfl) (by kernel_rfl)

/-- What the walk is told of a slice of flags: each cell below its length is a flag. -/
def Flags (w : World) (a : Option Addr) (len : Nat) : Prop :=
  ∀ i, i < len → ∃ x b, a = some x ∧ w.cell? (x.add i) = some (.bool b)

/-- What the walk is told of a slice of integers. -/
def Ints (w : World) (a : Option Addr) (len : Nat) (zs : List Int) : Prop :=
  (∀ i, i < len → ∃ x, a = some x ∧ w.cell? (x.add i) = some (.int .i64 (zs.getD i 0))) ∧ ∀ n ∈ zs, (Lit.int .i64 n).wf = true

/-- The flag that lies there. -/
def flagAt (w : World) (a : Option Addr) (i : Nat) : Bool := match a with
  | some x => match w.cell? (x.add i) with | some (.bool b) => b | _ => false
  | none => false

theorem plain_at {w : World} {x : Addr} {v : Value} (h : w.cell? (x.add 0) = some v) : ∃ b o, x = ⟨b, o, none⟩ ∧ b < w.heap.size := by
  obtain ⟨b, o, sp⟩ := x
  have hs : sp = none := by simpa [Addr.add] using World.cell?_spot h
  subst hs
  rw [Go.WideShapes.add_plain] at h
  refine ⟨b, o, rfl, ?_⟩
  rcases Nat.lt_or_ge b w.heap.size with hb | hb
  · exact hb
  · simp [World.cell?, Array.getElem?_eq_none hb] at h

theorem flags_later {w : World} {a : Option Addr} {len : Nat} (h : Flags w a len) :
    ∀ W, Below w.heap.size w W → ∀ i, i < len → ∃ b o, a = some ⟨b, o, none⟩ ∧ b < w.heap.size ∧ W.cell? ⟨b, o + i, none⟩ = some (.bool (flagAt w a i)) := by
  intro W hb i hi
  obtain ⟨x, f, rfl, hc⟩ := h i hi
  obtain ⟨x', f', hx, hc0⟩ := h 0 (by omega)
  obtain rfl := Option.some.inj hx
  have e : flagAt w (some x) i = f := by simp [flagAt, hc]
  obtain ⟨b, o, rfl, hlt⟩ := plain_at hc0
  rw [Go.WideShapes.add_plain] at hc
  exact ⟨b, o, rfl, hlt, by rw [hb.cell hlt, hc, e]⟩

theorem ints_later {w : World} {a : Option Addr} {len : Nat} {zs : List Int} (h : Ints w a len zs) :
    ∀ W, Below w.heap.size w W → ∀ i, i < len → ∃ b o, a = some ⟨b, o, none⟩ ∧ W.cell? ⟨b, o + i, none⟩ = some (.int .i64 (zs.getD i 0)) := by
  intro W hb i hi
  obtain ⟨x, rfl, hc⟩ := h.1 i hi
  obtain ⟨x', hx, hc0⟩ := h.1 0 (by omega)
  obtain rfl := Option.some.inj hx
  obtain ⟨b, o, rfl, hlt⟩ := plain_at hc0
  rw [Go.WideShapes.add_plain] at hc
  exact ⟨b, o, rfl, by rw [hb.cell hlt, hc]⟩

theorem ints_range {w : World} {a : Option Addr} {len : Nat} {zs : List Int} (h : Ints w a len zs) (i : Nat) : -9223372036854775808 ≤ zs.getD i 0 ∧ zs.getD i 0 ≤ 9223372036854775807 := by
  rcases Nat.lt_or_ge i zs.length with hi | hi
  · have := bounds_i64 (h.2 _ (List.getElem_mem hi))
    simp [List.getD, hi]
    omega
  · simp [List.getD, hi]

set_option maxRecDepth 100000 in
set_option maxHeartbeats 1000000 in
theorem walk (wts : Int) (a1 : Option Addr) (l1 c1 : Nat) (a2 : Option Addr) (l2 c2 : Nat) (z2 : List Int) (w : World) (w0 : (Lit.int .i64 wts).wf = true) (w1 : Flags w a1 l1) (w2 : Ints w a2 l2 z2)
    (htab : Lib.TabIs Ybad.prog w Ybad.tabN .u64 Lib.pow10Tab) :
    Calls Ybad.prog 4 #[.int .i64 wts, .slice a1 l1 c1, .slice a2 l2 c2] w fun e w' => e = .returned (.bool true) ∧ Below w.heap.size w w' := by
  obtain ⟨b0, c0⟩ := bounds_i64 w0
  by_cases hl : l1 ≤ 300
  · exact order_walk wts a1 l1 c1 a2 l2 c2 (flagAt w a1) (fun i => z2.getD i 0) w hl ⟨by omega, by omega⟩ (flags_later w1) (ints_later w2) (ints_range w2) (Lib.tabBelow_of_tabIs htab)
  · have hl' : 300 < l1 := by omega
    clear w0 w1 w2 htab
    go_enter Ybad.func4, Ybad.ntmps4
    go_wp2
    go_ret
    exact ⟨rfl, Below.refl _ _⟩

set_option maxRecDepth 100000 in
theorem lifted (os : Os) (started : os.Started) (H : Type) (enc : TypeId × Value → H) :
    ReturnsInHanded {} Ybad.checked os 4 .any (fun w args => (Rows.lawS4870BOrderSpec.pre enc Ybad.prog Ybad.f4 [] false w args ∧ laidMetH Ybad.prog lay w) ∧ sizedMet enc Ybad.prog Ybad.f4 (OpenSpec.ofChange Rows.lawS4870BOrderSpec) false w args)
      (Rows.lawS4870BOrderSpec.post enc Ybad.prog Ybad.f4 false true false false) := by
  refine returnsInHanded_of_change_and (C := Ybad.checked) (X := fun w _ => laidMetH Ybad.prog lay w) (fun _ _ _ hh h => h.of_heap hh) own started (by kernel_rfl) Ybad.func4
    (ChangeSpec.witness_shaped (enc := enc) (C := Ybad.checked) (os := os) (X := fun w _ => laidMetH Ybad.prog lay w) false (World.doorLaid Ybad.prog 400 os) #[.int .i64 0, .slice none 0 0, .slice none 0 0] 8 rfl (World.shaped_of_RefB (by kernel_rfl) (by kernel_rfl)) (by kernel_rfl) (by kernel_rfl) (by kernel_rfl) (door_met os _)) ?_
  intro W base args ds gs before hval0 hW _ _ hL _
  have hval : ∀ (j : Nat) t v, Ybad.f4.params[j]? = some t → args[j]? = some v → Value.okWide Ybad.prog W .any base t v := hval0
  have hW' := hW
  obtain ⟨p, q, hA0, hV, rfl, hfz, hnd⟩ := hW
  have hA : DataW.TrodAll enc Ybad.prog W 0 (fun _ => true) true Ybad.f4.params.toList args.toList ds p := hA0
  rw [Ybad.params4] at hA hval
  obtain ⟨v0, vs0, d0, ds0, p0, q0, hargs, rfl, rfl, h0, r0⟩ := trodAll_cons hA
  obtain ⟨v1, vs1, d1, ds1, p1, q1, rfl, rfl, rfl, h1, r1⟩ := trodAll_cons r0
  obtain ⟨v2, vs2, d2, ds2, p2, q2, rfl, rfl, rfl, h2, r2⟩ := trodAll_cons r1
  obtain ⟨rfl, rfl, rfl⟩ := trodAll_nil r2
  obtain rfl : args = #[v0, v1, v2] := by cases args; simp_all
  obtain ⟨rfl, rfl⟩ := trodVars_none hV
  obtain ⟨a0, rfl, rfl, rfl, w0⟩ := open_int Ybad.underlying3 (hval 0 3 v0 rfl rfl) h0
  obtain ⟨a1, len1, cap1, rfl⟩ := okWide_slice Ybad.underlying89 (hval 1 89 v1 rfl rfl)
  have k1 := h1
  have lt1 : ∀ x ∈ p1, x.block < W.heap.size := by obtain ⟨m, hm⟩ := k1; exact DataW.trod_lt m _ _ _ hm
  have w1 : Flags W a1 len1 := by
    obtain ⟨fuel, hf⟩ := h1
    rcases DataW.trod_slice Ybad.underlying89 hf with ⟨hcs, _⟩ | ⟨a, len, cap, elems, rest, n, _, hcs, _, hb, hl, hm, hlen, hel, hsp, hns⟩
    · simp [Value.cells] at hcs
      obtain ⟨rfl, rfl, rfl⟩ := hcs
      intro i hi
      omega
    · simp [Value.cells] at hcs
      obtain ⟨rfl, rfl, rfl⟩ := hcs
      intro i hi
      have hy := hel i hi
      rw [List.getElem?_eq_getElem (by omega), show Ybad.prog.cellsOf 4 = 1 by kernel_rfl, Nat.mul_one, Option.bind_eq_some_iff] at hy
      obtain ⟨cs', hcs', hy'⟩ := hy
      obtain ⟨f, rfl, _⟩ := DataW.trod_bool Ybad.underlying4 hy'
      exact ⟨_, f, rfl, cell_of_cells?_one hcs'⟩
  obtain ⟨a2, len2, cap2, rfl⟩ := okWide_slice Ybad.underlying51 (hval 2 51 v2 rfl rfl)
  have k2 := h2
  have lt2 : ∀ x ∈ p2, x.block < W.heap.size := by obtain ⟨m, hm⟩ := k2; exact DataW.trod_lt m _ _ _ hm
  obtain ⟨z2, w2⟩ : ∃ zs, Ints W a2 len2 zs := by
    obtain ⟨fuel, hf⟩ := h2
    rcases open_ints Ybad.underlying51 Ybad.underlying3 (by kernel_rfl) hf with ⟨hcs, _⟩ | ⟨x, l, c, zs, hcs, _, hl, hm, hz, _, hcell, hwz⟩
    · simp [Value.cells] at hcs
      obtain ⟨rfl, rfl, rfl⟩ := hcs
      exact ⟨[], fun i hi => by omega, fun n hn => by cases hn⟩
    · simp [Value.cells] at hcs
      obtain ⟨rfl, rfl, rfl⟩ := hcs
      have hz' : zs.length = cap2 := by simpa using hz
      exact ⟨zs, fun i hi => ⟨_, rfl, hcell i (by omega)⟩, hwz⟩
  clear hA0 hval0
  refine (walk a0 a1 len1 cap1 a2 len2 cap2 z2 W w0 w1 w2 (of_laid hL)).mono fun e W' ⟨he, bel⟩ => ?_
  subst he
  exact ⟨_, rfl, _, _, _, [], _, [], hW', trodAll_mk1 (shut_bool Ybad.underlying4 _), (trodAll_cons_mk (shut_int Ybad.underlying3 w0) (trodAll_cons_mk (Below.trod laidOut (by kernel_rfl) (of_decide_eq_true (by kernel_rfl)) k1 bel lt1) (trodAll_cons_mk (Below.trod laidOut (by kernel_rfl) (of_decide_eq_true (by kernel_rfl)) k2 bel lt2) trodAll_mk0))), rfl, bel.frame _, fun h => by cases h⟩

/-- The row. -/
theorem row_holds : Rows.LawS4870BOrderSaid :=
  OpenClaim.holds_of_wide 4 Ybad.f4 rfl rfl rfl rfl rfl rfl rfl ⟨rfl, rfl, rfl, rfl, rfl⟩ rfl rfl rfl rfl rfl (by kernel_rfl) Ybad.func4 (by kernel_rfl)
    (of_decide_eq_true (by kernel_rfl)) (by unfold Func.isWrapper; first | (rw [if_pos (by decide +kernel)]; kernel_rfl) | (rw [if_neg (by decide +kernel)]; exact ⟨rfl, rfl⟩))
    (fun os started H enc _ => lifted os started H enc)

/-- ████ THE STATEMENT: the tied card ████ -/
theorem proved : Rows.LawS4870BOrderCardSaid :=
  Claim7.holds_tied_plain_at .later [] [.data, .data, .data] true (true, "727d50a73ef3d5d4caaf6fe5ca4bff411fc33a57337919e64108e1b1dc1d401a") false
    row_holds (fun _ h => by cases h) (by kernel_rfl) (fun _ h => by cases h) lawS4870BOrder_row_tie rfl ⟨rfl, rfl⟩ (by kernel_rfl) rfl
    (fun f fn hf hfn => by
      obtain rfl : f = 4 := Option.some.inj ((show Ybad.prog.funcNamed Rows.lawS4870BOrderRow.func = some 4 by kernel_rfl).symm.trans hf) |>.symm
      obtain rfl : fn = Ybad.f4 := (Option.some.inj (Ybad.func4.symm.trans hfn)).symm
      exact ⟨by kernel_rfl, fun j t ht => by
        rw [Ybad.params4] at ht
        have s3 : Ybad.prog.wantsStandIn 3 = false := by kernel_rfl
        have s89 : Ybad.prog.wantsStandIn 89 = false := by kernel_rfl
        have s51 : Ybad.prog.wantsStandIn 51 = false := by kernel_rfl
        match j, ht with
        | 0, ht => obtain rfl : 3 = t := by simpa using ht
                   exact s3
        | 1, ht => obtain rfl : 89 = t := by simpa using ht
                   exact s89
        | 2, ht => obtain rfl : 51 = t := by simpa using ht
                   exact s51
        | j + 3, ht => simp at ht⟩)
    (by kernel_rfl)
end Go.Proofs.YbulkcvviDoor.lawS4870BOrder

/- The proof of 'Rows.LawS4870BOneCardSaid': the row (its laid table turned to the contract's fact; its walk out of the two walks of this folder), then the tied card. -/
import Derived.Test.YbulkcvviDoorRows
import Derived.Test.YbulkcvviDoorTie
import Derived.Test.YbulkcvviDoorCards
import Derived.Test.YbulkcvviDoorOneNo
import Derived.Test.YbulkcvviDoorOneYes
import Derived.WalkKit
import Derived.ProofKit
import Derived.OpenShut
import Derived.ShutString
import Derived.ChangeOld
import Derived.Below
import Derived.LaidMore
import Derived.LaidHandle
import Derived.Stop.Joined
import Derived.SevenTiedAt
import Derived.Lib.LaidTab
namespace Go.Proofs.YbulkcvviDoor.lawS4870BOne
open Go.ChangeShapes Go.WideShapes Go.ChangeAt Go.RowKit
open Go.ChangeMaps (open_string shut_string)
set_option linter.unusedVariables false

theorem own : ownKnob Ybad.prog.godebug = none := by kernel_rfl
theorem laidOut : laidOutB Ybad.prog = true := by kernel_rfl
theorem gTab : Ybad.prog.globalNamed Ybad.tabN = some 0 := by kernel_rfl
theorem tTab : (Ybad.prog.globals[0]?).map (·.type) = some 174 := by kernel_rfl
theorem c93 : Ybad.prog.cellsOf 93 = 1 := by kernel_rfl
theorem c174 : Ybad.prog.cellsOf 174 = 20 := by kernel_rfl

/-- The row's condition. -/
def lay : List (String × DataW Unit) := Rows.lawS4870BOneRow.laid

theorem tail' {P : Program} {x : String × DataW Unit} {r : List (String × DataW Unit)} {w : World} (h : laidMet P (x :: r) w) : laidMet P r w := by
  obtain ⟨ps, hv, hnd, hrows⟩ := h
  obtain ⟨n, d⟩ := x
  obtain ⟨g, t, cs, fuel, p, q, _, _, _, _, hq, rfl⟩ := hv
  exact ⟨q, hq, List.Nodup.sublist (List.sublist_append_right _ _) hnd, fun b off hm => hrows b off (List.mem_append_right _ hm)⟩

/-- What the row's condition gives the walks. -/
theorem of_laid {W : World} (h : laidMetH Ybad.prog lay W) : Lib.TabIs Ybad.prog W Ybad.tabN .u64 Lib.pow10Tab := by
  rw [MakeChecks.laidMetH_plain _ _ _ (by kernel_rfl)] at h
  have h2 : laidMet Ybad.prog ((Ybad.tabN, Lib.tabData .u64 Lib.pow10Tab) :: []) W := tail' (tail' h)
  exact Lib.tabIs_of_head gTab tTab Ybad.underlying174 Ybad.underlying93 c93 c174 h2

/-- The door's own heap meets the condition. -/
theorem door_met (os : Os) (args : Array Value) : laidMetH Ybad.prog lay ((World.doorLaid Ybad.prog 400 os).forCall (fun _ _ => 0) ⟨#[], args, []⟩).memory :=
  laidMetH_of_parts3 (fuel := 8) (laidMet_of_run' 8 (by kernel_rfl) (by kernel_rfl)) (by kernel_rfl) (by kernel_rfl)

/-- What the walk is told of a slice of integers that came in (the shell's own words). -/
def IsRow (k : IntKind) (w : World) (a : Option Addr) (len cap : Nat) (zs : List Int) : Prop :=
  (a = none ∧ len = 0 ∧ cap = 0 ∧ zs = []) ∨
  ∃ x, a = some x ∧ len ≤ cap ∧ cap ≤ maxLen ∧ zs.length = cap ∧ (∀ i, i < zs.length → w.cell? (x.add i) = some (.int k (zs.getD i 0))) ∧ ∀ n ∈ zs, (Lit.int k n).wf = true

/-- The slice's bytes, read in every later world. -/
theorem src_of {w : World} {a0 : Option Addr} {len0 cap0 : Nat} {z0 : List Int} (h : IsRow .u8 w a0 len0 cap0 z0) :
    ∃ bs : List UInt8, bs.length = len0 ∧ (∀ W, Below w.heap.size w W → ∀ ad, a0 = some ad → ∀ (j : Nat) (u : Value), (Lib.byteCells bs)[j]? = some u → W.cell? (ad.add j) = some u) ∧ (a0 = none → len0 = 0 ∧ cap0 = 0) := by
  rcases h with ⟨rfl, rfl, rfl, rfl⟩ | ⟨x, rfl, hlc, hc, hz, hcell, hwf⟩
  · exact ⟨[], rfl, fun W _ ad h => (by cases h), fun _ => ⟨rfl, rfl⟩⟩
  · refine ⟨(z0.take len0).map fun z => UInt8.ofNat z.toNat, by simp; omega, fun W hb ad h => ?_, fun h => by cases h⟩
    obtain rfl := Option.some.inj h
    intro j u hj
    have hjl : j < len0 := by
      have := (List.getElem?_eq_some_iff.1 hj).1
      simp [Lib.byteCells] at this
      omega
    have hcj := hcell j (by omega)
    have hblk : (x.add j).block < w.heap.size := by
      rcases Nat.lt_or_ge (x.add j).block w.heap.size with h | h
      · exact h
      · simp [World.cell?, Array.getElem?_eq_none h] at hcj
    rw [hb.cell hblk, hcj, ← hj]
    have hjz : j < z0.length := by omega
    have hb8 := bounds_u8 (hwf z0[j] (List.getElem_mem hjz))
    have e1 : z0[j].toNat % 256 = z0[j].toNat := Nat.mod_eq_of_lt (by omega)
    have e2 : ((z0[j].toNat : Nat) : Int) = z0[j] := Int.toNat_of_nonneg hb8.1
    simp [Lib.byteCells, List.getD, hjl, hjz, e1, e2]

set_option maxRecDepth 100000 in
set_option maxHeartbeats 1000000 in
theorem walk (s : ByteArray) (v val wts : Int) (lk : Bool) (a5 : Option Addr) (l5 c5 : Nat) (z5 : List Int) (a6 : Int) (w : World) (w1 : (Lit.int .i64 v).wf = true) (w5 : IsRow .u8 w a5 l5 c5 z5) (w6 : (Lit.int .u16 a6).wf = true)
    (htab : Lib.TabIs Ybad.prog w Ybad.tabN .u64 Lib.pow10Tab) :
    Calls Ybad.prog 3 #[.string s, .int .i64 v, .int .i64 val, .int .i64 wts, .bool lk, .slice a5 l5 c5, .int .u16 a6] w fun e w' => e = .returned (.bool true) ∧ Below w.heap.size w w' := by
  obtain ⟨b1, c1⟩ := bounds_i64 w1
  obtain ⟨b6, c6⟩ := bounds_u16 w6
  obtain ⟨A6, rfl⟩ := Int.eq_ofNat_of_zero_le b6
  obtain ⟨bs, hbl, hsrc, hno⟩ := src_of w5
  by_cases hl : l5 ≤ 1024
  · by_cases hs : s.size ≤ 1024
    · obtain ⟨n, hne⟩ : ∃ n, n = A6 % 300 := ⟨_, rfl⟩
      cases lk with
      | false => exact one_no s v val wts a5 l5 c5 A6 n bs w hs hl (by omega) (by omega) (by omega) b1 c1 hsrc hbl hno (Lib.tabBelow_of_tabIs htab)
      | true => exact one_yes s v val wts a5 l5 c5 A6 n bs w hs hl (by omega) (by omega) (by omega) b1 c1 hsrc hbl hno (Lib.tabBelow_of_tabIs htab)
    · have hs' : 1024 < s.size := by omega
      clear w1 w5 w6 htab hsrc hno
      go_enter Ybad.func3, Ybad.ntmps3
      go_wp2
      go_ret
      exact ⟨rfl, Below.refl _ _⟩
  · have hl' : 1024 < l5 := by omega
    clear w1 w5 w6 htab hsrc hno
    go_enter Ybad.func3, Ybad.ntmps3
    go_wp2
    go_ret
    exact ⟨rfl, Below.refl _ _⟩

set_option maxRecDepth 100000 in
theorem lifted (os : Os) (started : os.Started) (H : Type) (enc : TypeId × Value → H) :
    ReturnsInHanded {} Ybad.checked os 3 .any (fun w args => (Rows.lawS4870BOneSpec.pre enc Ybad.prog Ybad.f3 [] false w args ∧ laidMetH Ybad.prog lay w) ∧ sizedMet enc Ybad.prog Ybad.f3 (OpenSpec.ofChange Rows.lawS4870BOneSpec) false w args)
      (Rows.lawS4870BOneSpec.post enc Ybad.prog Ybad.f3 false true false false) := by
  refine returnsInHanded_of_change_and (C := Ybad.checked) (X := fun w _ => laidMetH Ybad.prog lay w) (fun _ _ _ hh h => h.of_heap hh) own started (by kernel_rfl) Ybad.func3
    (ChangeSpec.witness_shaped (enc := enc) (C := Ybad.checked) (os := os) (X := fun w _ => laidMetH Ybad.prog lay w) false (World.doorLaid Ybad.prog 400 os) #[.string ⟨#[]⟩, .int .i64 0, .int .i64 0, .int .i64 0, .bool false, .slice none 0 0, .int .u16 0] 8 rfl (World.shaped_of_RefB (by kernel_rfl) (by kernel_rfl)) (by kernel_rfl) (by kernel_rfl) (by kernel_rfl) (door_met os _)) ?_
  intro W base args ds gs before hval0 hW _ _ hL _
  have hval : ∀ (j : Nat) t v, Ybad.f3.params[j]? = some t → args[j]? = some v → Value.okWide Ybad.prog W .any base t v := hval0
  have hW' := hW
  obtain ⟨p, q, hA0, hV, rfl, hfz, hnd⟩ := hW
  have hA : DataW.TrodAll enc Ybad.prog W 0 (fun _ => true) true Ybad.f3.params.toList args.toList ds p := hA0
  rw [Ybad.params3] at hA hval
  obtain ⟨v0, vs0, d0, ds0, p0, q0, hargs, rfl, rfl, h0, r0⟩ := trodAll_cons hA
  obtain ⟨v1, vs1, d1, ds1, p1, q1, rfl, rfl, rfl, h1, r1⟩ := trodAll_cons r0
  obtain ⟨v2, vs2, d2, ds2, p2, q2, rfl, rfl, rfl, h2, r2⟩ := trodAll_cons r1
  obtain ⟨v3, vs3, d3, ds3, p3, q3, rfl, rfl, rfl, h3, r3⟩ := trodAll_cons r2
  obtain ⟨v4, vs4, d4, ds4, p4, q4, rfl, rfl, rfl, h4, r4⟩ := trodAll_cons r3
  obtain ⟨v5, vs5, d5, ds5, p5, q5, rfl, rfl, rfl, h5, r5⟩ := trodAll_cons r4
  obtain ⟨v6, vs6, d6, ds6, p6, q6, rfl, rfl, rfl, h6, r6⟩ := trodAll_cons r5
  obtain ⟨rfl, rfl, rfl⟩ := trodAll_nil r6
  obtain rfl : args = #[v0, v1, v2, v3, v4, v5, v6] := by cases args; simp_all
  obtain ⟨rfl, rfl⟩ := trodVars_none hV
  obtain ⟨s, rfl, rfl, rfl, w0⟩ := open_string Ybad.underlying9 (hval 0 9 v0 rfl rfl) h0
  obtain ⟨a1, rfl, rfl, rfl, w1⟩ := open_int Ybad.underlying3 (hval 1 3 v1 rfl rfl) h1
  obtain ⟨a2, rfl, rfl, rfl, w2⟩ := open_int Ybad.underlying2 (hval 2 2 v2 rfl rfl) h2
  obtain ⟨a3, rfl, rfl, rfl, w3⟩ := open_int Ybad.underlying3 (hval 3 3 v3 rfl rfl) h3
  obtain ⟨a4, rfl, rfl, rfl⟩ := open_bool Ybad.underlying4 (hval 4 4 v4 rfl rfl) h4
  obtain ⟨a5, len5, cap5, rfl⟩ := okWide_slice Ybad.underlying22 (hval 5 22 v5 rfl rfl)
  have k5 := h5
  have lt5 : ∀ x ∈ p5, x.block < W.heap.size := by obtain ⟨m, hm⟩ := k5; exact DataW.trod_lt m _ _ _ hm
  obtain ⟨z5, w5⟩ : ∃ zs, IsRow .u8 W a5 len5 cap5 zs := by
    obtain ⟨fuel, hf⟩ := h5
    rcases open_ints Ybad.underlying22 Ybad.underlying5 (by kernel_rfl) hf with ⟨hcs, _⟩ | ⟨x, l, c, zs, hcs, _, hl, hm, hz, _, hcell, hwz⟩
    · simp [Value.cells] at hcs
      obtain ⟨rfl, rfl, rfl⟩ := hcs
      exact ⟨[], .inl ⟨rfl, rfl, rfl, rfl⟩⟩
    · simp [Value.cells] at hcs
      obtain ⟨rfl, rfl, rfl⟩ := hcs
      exact ⟨zs, .inr ⟨_, rfl, hl, hm, by simpa using hz, hcell, hwz⟩⟩
  obtain ⟨a6, rfl, rfl, rfl, w6⟩ := open_int Ybad.underlying23 (hval 6 23 v6 rfl rfl) h6
  clear hA0 hval0
  refine (walk s a1 a2 a3 a4 a5 len5 cap5 z5 a6 W w1 w5 w6 (of_laid hL)).mono fun e W' ⟨he, bel⟩ => ?_
  subst he
  exact ⟨_, rfl, _, _, _, [], _, [], hW', trodAll_mk1 (shut_bool Ybad.underlying4 _), (trodAll_cons_mk (shut_string Ybad.underlying9 w0) (trodAll_cons_mk (shut_int Ybad.underlying3 w1) (trodAll_cons_mk (shut_int Ybad.underlying2 w2) (trodAll_cons_mk (shut_int Ybad.underlying3 w3) (trodAll_cons_mk (shut_bool Ybad.underlying4 _) (trodAll_cons_mk (Below.trod laidOut (by kernel_rfl) (of_decide_eq_true (by kernel_rfl)) k5 bel lt5) (trodAll_cons_mk (shut_int Ybad.underlying23 w6) trodAll_mk0))))))), rfl, bel.frame _, fun h => by cases h⟩

/-- The row. -/
theorem row_holds : Rows.LawS4870BOneSaid :=
  OpenClaim.holds_of_wide 3 Ybad.f3 rfl rfl rfl rfl rfl rfl rfl ⟨rfl, rfl, rfl, rfl, rfl⟩ rfl rfl rfl rfl rfl (by kernel_rfl) Ybad.func3 (by kernel_rfl)
    (of_decide_eq_true (by kernel_rfl)) (by unfold Func.isWrapper; first | (rw [if_pos (by decide +kernel)]; kernel_rfl) | (rw [if_neg (by decide +kernel)]; exact ⟨rfl, rfl⟩))
    (fun os started H enc _ => lifted os started H enc)

/-- ████ THE STATEMENT: the tied card ████ -/
theorem proved : Rows.LawS4870BOneCardSaid :=
  Claim7.holds_tied_plain_at .later [] [.data, .data, .data] true (true, "727d50a73ef3d5d4caaf6fe5ca4bff411fc33a57337919e64108e1b1dc1d401a") false
    row_holds (fun _ h => by cases h) (by kernel_rfl) (fun _ h => by cases h) lawS4870BOne_row_tie rfl ⟨rfl, rfl⟩ (by kernel_rfl) rfl
    (fun f fn hf hfn => by
      obtain rfl : f = 3 := Option.some.inj ((show Ybad.prog.funcNamed Rows.lawS4870BOneRow.func = some 3 by kernel_rfl).symm.trans hf) |>.symm
      obtain rfl : fn = Ybad.f3 := (Option.some.inj (Ybad.func3.symm.trans hfn)).symm
      exact ⟨by kernel_rfl, fun j t ht => by
        rw [Ybad.params3] at ht
        have s9 : Ybad.prog.wantsStandIn 9 = false := by kernel_rfl
        have s3 : Ybad.prog.wantsStandIn 3 = false := by kernel_rfl
        have s2 : Ybad.prog.wantsStandIn 2 = false := by kernel_rfl
        have s4 : Ybad.prog.wantsStandIn 4 = false := by kernel_rfl
        have s22 : Ybad.prog.wantsStandIn 22 = false := by kernel_rfl
        have s23 : Ybad.prog.wantsStandIn 23 = false := by kernel_rfl
        match j, ht with
        | 0, ht => obtain rfl : 9 = t := by simpa using ht
                   exact s9
        | 1, ht => obtain rfl : 3 = t := by simpa using ht
                   exact s3
        | 2, ht => obtain rfl : 2 = t := by simpa using ht
                   exact s2
        | 3, ht => obtain rfl : 3 = t := by simpa using ht
                   exact s3
        | 4, ht => obtain rfl : 4 = t := by simpa using ht
                   exact s4
        | 5, ht => obtain rfl : 22 = t := by simpa using ht
                   exact s22
        | 6, ht => obtain rfl : 23 = t := by simpa using ht
                   exact s23
        | j + 7, ht => simp at ht⟩)
    (by kernel_rfl)
end Go.Proofs.YbulkcvviDoor.lawS4870BOne

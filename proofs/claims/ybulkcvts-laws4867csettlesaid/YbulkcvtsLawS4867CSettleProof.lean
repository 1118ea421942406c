/- The proof of 'Rows.LawS4867CSettleSaid': the row's shell (written by the guide's tool), its walk filled from the walks of this folder. -/
import Derived.Test.YbulkcvtsRows
import Derived.WalkKit
import Derived.ProofKit
import Derived.OpenShut
import Derived.ShutString
import Derived.ChangeOld
import Derived.Below
import Derived.Test.YbulkcvtsHunt
import Derived.Test.YbulkcvtsNone
import Derived.Test.YbulkcvtsSome
import Derived.Test.YbulkcvtsDiscA
import Derived.Test.YbulkcvtsDiscB
import Derived.Test.YbulkcvtsDiscC
import Derived.Test.YbulkcvtsDiscD
import Derived.Test.YbulkcvtsDataA
import Derived.Test.YbulkcvtsDataB
import Derived.Test.YbulkcvtsDataC
import Derived.Test.YbulkcvtsDataD
namespace Go.Proofs.Ybulkcvts.lawS4867CSettle
open Go.ChangeShapes Go.WideShapes Go.ChangeAt Go.RowKit
open Go.ChangeMaps (open_string shut_string)
set_option linter.unusedVariables false

theorem own : ownKnob Yba.prog.godebug = none := by kernel_rfl
theorem laidOut : laidOutB Yba.prog = true := by kernel_rfl

theorem and_mask (A n : Nat) (hA : A < 256) (hn : n < 8) : bits .and .u8 (A : Int) ((2 ^ n - 1) % 256) = ((A &&& (2 ^ n - 1) : Nat) : Int) := by
  have hp : 2 ^ n ≤ 2 ^ 7 := Nat.pow_le_pow_right (by decide) (by omega)
  have hq := Nat.two_pow_pos n
  have e : ((2 : Int) ^ n - 1) % 256 = ((2 ^ n - 1 : Nat) : Int) := by
    have e1 : (2 : Int) ^ n = ((2 ^ n : Nat) : Int) := by simp
    rw [e1]; omega
  rw [e]; exact u8_and_nat _ _ hA (by omega)
theorem and_lt (A n : Nat) : A &&& (2 ^ n - 1) < 2 ^ n := by
  have h1 : A &&& (2 ^ n - 1) ≤ 2 ^ n - 1 := Nat.and_le_right
  have := Nat.two_pow_pos n
  omega

/-! ### STEP 1: THE WALK: the Go text returns true, AND WRITES NOTHING THAT WAS THERE: 'Below w.heap.size w w'' (Derived/Below.lean: '.refl', '.alloc', '.drew', '.setCell' at a new block, '.trans'). Open each 'IsRow' by 'rcases' AHEAD of 'go_enter'; part every test ahead of the walk. -/
set_option maxRecDepth 100000 in
set_option maxHeartbeats 1000000 in
theorem walk (a0 : Option Addr) (len0 cap0 : Nat) (z0 : List Int) (a1 : Int) (a2 : Int) (a3 : Int) (a4 : Bool) (a5 : Bool) (a6 : Bool) (a7 : Int) (a8 : Int) (w : World) (w0 : IsRow .u8 w a0 len0 cap0 z0) (w1 : (Lit.int .u8 a1).wf = true) (w2 : (Lit.int .u8 a2).wf = true) (w3 : (Lit.int .u8 a3).wf = true) (w7 : (Lit.int .u16 a7).wf = true) (w8 : (Lit.int .i64 a8).wf = true) :
    Calls Yba.prog 3 #[.slice a0 len0 cap0, .int .u8 a1, .int .u8 a2, .int .u8 a3, .bool a4, .bool a5, .bool a6, .int .u16 a7, .int .i64 a8] w fun e w' => e = .returned (.bool true) ∧ Below w.heap.size w w' := by
  obtain ⟨b1, c1⟩ := bounds_u8 w1
  obtain ⟨b2, c2⟩ := bounds_u8 w2
  obtain ⟨b3, c3⟩ := bounds_u8 w3
  obtain ⟨b7, c7⟩ := bounds_u16 w7
  obtain ⟨A1, rfl⟩ := Int.eq_ofNat_of_zero_le b1
  obtain ⟨A2, rfl⟩ := Int.eq_ofNat_of_zero_le b2
  obtain ⟨A3, rfl⟩ := Int.eq_ofNat_of_zero_le b3
  obtain ⟨A7, rfl⟩ := Int.eq_ofNat_of_zero_le b7
  have hkc : len0 ≤ cap0 := by
    rcases w0 with ⟨_, rfl, rfl, _⟩ | ⟨x, _, h, _⟩
    · exact Nat.le_refl _
    · exact h
  by_cases hl : len0 ≤ 1024
  · have h1 : A1 < 256 := by omega
    have h2 : A2 < 256 := by omega
    have h3 : A3 < 256 := by omega
    have h7 : A7 < 65536 := by omega
    obtain ⟨m, hme⟩ : ∃ m, m = A7 % 80 := ⟨_, rfl⟩
    obtain ⟨n, hne⟩ : ∃ n, n = A2 % 8 := ⟨_, rfl⟩
    obtain ⟨o, hoe⟩ : ∃ o, o = A3 % 8 := ⟨_, rfl⟩
    have hm : (A7 : Int) % 80 = m := by omega
    have hn : (A2 : Int) % 8 = n := by omega
    have ho : (A3 : Int) % 8 = o := by omega
    have hm' : m < 80 := by omega
    have hn' : n < 8 := by omega
    have ho' : o < 8 := by omega
    obtain ⟨a, hae⟩ : ∃ a, a = A1 &&& (2 ^ n - 1) := ⟨_, rfl⟩
    have hA : bits .and .u8 (A1 : Int) ((2 ^ n - 1) % 256) = (a : Int) := by rw [hae]; exact and_mask A1 n h1 hn'
    have ha : a < 2 ^ n := by rw [hae]; exact and_lt A1 n
    have ha256 : a < 256 := by
      have : a ≤ A1 := by rw [hae]; exact Nat.and_le_left
      omega
    by_cases hkm : m < len0
    · have hsrc := src_of w0 m (by omega)
      obtain ⟨xs, hxs⟩ : ∃ xs, xs = z0.take m := ⟨_, rfl⟩
      rw [← hxs] at hsrc
      exact (show Calls _ _ _ _ _ by
        rcases Nat.lt_trichotomy o 6 with q | q | q
        · cases a5 with
          | true => exact hunt_b a0 len0 cap0 A1 A2 A3 A7 m n o a xs a4 true a6 a8 w hl hkm hkc h1 h2 h3 h7 hm hn ho hm' hn' ho' hA ha ha256 hsrc rfl (by simp; omega)
          | false =>
            cases a4 with
            | true => exact data_C a0 len0 cap0 A1 A2 A3 A7 m n o a xs true false a6 a8 w hl hkm hkc h1 h2 h3 h7 hm hn ho hm' hn' ho' hA ha ha256 hsrc rfl rfl (by omega)
            | false => exact data_D a0 len0 cap0 A1 A2 A3 A7 m n o a xs false false a6 a8 w hl hkm hkc h1 h2 h3 h7 hm hn ho hm' hn' ho' hA ha ha256 hsrc rfl rfl (by omega)
        · by_cases hK0 : 0 < m
          · by_cases hn0 : 0 < n
            · cases a6 with
              | true =>
                cases a5 with
                | true => exact discA_bt a0 len0 cap0 A1 A2 A3 A7 m n o a xs a4 true true a8 w hl hkm hkc h1 h2 h3 h7 hm hn ho hm' hn' ho' hA ha ha256 hsrc q rfl hK0 rfl
                | false => exact discA_bf a0 len0 cap0 A1 A2 A3 A7 m n o a xs a4 false true a8 w hl hkm hkc h1 h2 h3 h7 hm hn ho hm' hn' ho' hA ha ha256 hsrc q rfl hK0 rfl
              | false =>
                cases a5 with
                | true => exact discB_bt a0 len0 cap0 A1 A2 A3 A7 m n o a xs a4 true false a8 w hl hkm hkc h1 h2 h3 h7 hm hn ho hm' hn' ho' hA ha ha256 hsrc q rfl hK0 hn0 rfl
                | false => exact discB_bf a0 len0 cap0 A1 A2 A3 A7 m n o a xs a4 false false a8 w hl hkm hkc h1 h2 h3 h7 hm hn ho hm' hn' ho' hA ha ha256 hsrc q rfl hK0 hn0 rfl
            · cases a6 with
              | true =>
                cases a5 with
                | true => exact discA_bt a0 len0 cap0 A1 A2 A3 A7 m n o a xs a4 true true a8 w hl hkm hkc h1 h2 h3 h7 hm hn ho hm' hn' ho' hA ha ha256 hsrc q rfl hK0 rfl
                | false => exact discA_bf a0 len0 cap0 A1 A2 A3 A7 m n o a xs a4 false true a8 w hl hkm hkc h1 h2 h3 h7 hm hn ho hm' hn' ho' hA ha ha256 hsrc q rfl hK0 rfl
              | false =>
                cases a5 with
                | true => exact some_bt a0 len0 cap0 A1 A2 A3 A7 m n o a xs a4 true false a8 w hl hkm hkc h1 h2 h3 h7 hm hn ho hm' hn' ho' hA ha ha256 hsrc q rfl hK0 (by omega) rfl
                | false => exact some_bf a0 len0 cap0 A1 A2 A3 A7 m n o a xs a4 false false a8 w hl hkm hkc h1 h2 h3 h7 hm hn ho hm' hn' ho' hA ha ha256 hsrc q rfl hK0 (by omega) rfl
          · by_cases hn0 : 0 < n
            · cases a6 with
              | true =>
                cases a5 with
                | true => exact discC_bt a0 len0 cap0 A1 A2 A3 A7 m n o a xs a4 true true a8 w hl hkm hkc h1 h2 h3 h7 hm hn ho hm' hn' ho' hA ha ha256 hsrc q rfl (by omega) hn0 rfl
                | false => exact discC_bf a0 len0 cap0 A1 A2 A3 A7 m n o a xs a4 false true a8 w hl hkm hkc h1 h2 h3 h7 hm hn ho hm' hn' ho' hA ha ha256 hsrc q rfl (by omega) hn0 rfl
              | false =>
                cases a5 with
                | true => exact discD_bt a0 len0 cap0 A1 A2 A3 A7 m n o a xs a4 true false a8 w hl hkm hkc h1 h2 h3 h7 hm hn ho hm' hn' ho' hA ha ha256 hsrc q rfl (by omega) hn0 rfl
                | false => exact discD_bf a0 len0 cap0 A1 A2 A3 A7 m n o a xs a4 false false a8 w hl hkm hkc h1 h2 h3 h7 hm hn ho hm' hn' ho' hA ha ha256 hsrc q rfl (by omega) hn0 rfl
            · cases a5 with
              | true => exact none_bt a0 len0 cap0 A1 A2 A3 A7 m n o a xs a4 true a6 a8 w hl hkm hkc h1 h2 h3 h7 hm hn ho hm' hn' ho' hA ha ha256 hsrc q rfl (by omega) (by omega)
              | false => exact none_bf a0 len0 cap0 A1 A2 A3 A7 m n o a xs a4 false a6 a8 w hl hkm hkc h1 h2 h3 h7 hm hn ho hm' hn' ho' hA ha ha256 hsrc q rfl (by omega) (by omega)
        · cases a5 with
          | true => exact hunt_b a0 len0 cap0 A1 A2 A3 A7 m n o a xs a4 true a6 a8 w hl hkm hkc h1 h2 h3 h7 hm hn ho hm' hn' ho' hA ha ha256 hsrc rfl (by simp; omega)
          | false => exact hunt7_b a0 len0 cap0 A1 A2 A3 A7 m n o a xs a4 false a6 a8 w hl hkm hkc h1 h2 h3 h7 hm hn ho hm' hn' ho' hA ha ha256 hsrc rfl (by simp; omega) (by simp; omega))
    · have hsrc := src_of w0 len0 (Nat.le_refl _)
      obtain ⟨xs, hxs⟩ : ∃ xs, xs = z0.take len0 := ⟨_, rfl⟩
      rw [← hxs] at hsrc
      exact (show Calls _ _ _ _ _ by
        rcases Nat.lt_trichotomy o 6 with q | q | q
        · cases a5 with
          | true => exact hunt_a a0 len0 cap0 A1 A2 A3 A7 m n o a xs a4 true a6 a8 w hl hkm hkc h1 h2 h3 h7 hm hn ho hm' hn' ho' hA ha ha256 hsrc rfl (by simp; omega)
          | false =>
            cases a4 with
            | true => exact data_A a0 len0 cap0 A1 A2 A3 A7 m n o a xs true false a6 a8 w hl hkm hkc h1 h2 h3 h7 hm hn ho hm' hn' ho' hA ha ha256 hsrc rfl rfl (by omega)
            | false => exact data_B a0 len0 cap0 A1 A2 A3 A7 m n o a xs false false a6 a8 w hl hkm hkc h1 h2 h3 h7 hm hn ho hm' hn' ho' hA ha ha256 hsrc rfl rfl (by omega)
        · by_cases hK0 : 0 < len0
          · by_cases hn0 : 0 < n
            · cases a6 with
              | true =>
                cases a5 with
                | true => exact discA_at a0 len0 cap0 A1 A2 A3 A7 m n o a xs a4 true true a8 w hl hkm hkc h1 h2 h3 h7 hm hn ho hm' hn' ho' hA ha ha256 hsrc q rfl hK0 rfl
                | false => exact discA_af a0 len0 cap0 A1 A2 A3 A7 m n o a xs a4 false true a8 w hl hkm hkc h1 h2 h3 h7 hm hn ho hm' hn' ho' hA ha ha256 hsrc q rfl hK0 rfl
              | false =>
                cases a5 with
                | true => exact discB_at a0 len0 cap0 A1 A2 A3 A7 m n o a xs a4 true false a8 w hl hkm hkc h1 h2 h3 h7 hm hn ho hm' hn' ho' hA ha ha256 hsrc q rfl hK0 hn0 rfl
                | false => exact discB_af a0 len0 cap0 A1 A2 A3 A7 m n o a xs a4 false false a8 w hl hkm hkc h1 h2 h3 h7 hm hn ho hm' hn' ho' hA ha ha256 hsrc q rfl hK0 hn0 rfl
            · cases a6 with
              | true =>
                cases a5 with
                | true => exact discA_at a0 len0 cap0 A1 A2 A3 A7 m n o a xs a4 true true a8 w hl hkm hkc h1 h2 h3 h7 hm hn ho hm' hn' ho' hA ha ha256 hsrc q rfl hK0 rfl
                | false => exact discA_af a0 len0 cap0 A1 A2 A3 A7 m n o a xs a4 false true a8 w hl hkm hkc h1 h2 h3 h7 hm hn ho hm' hn' ho' hA ha ha256 hsrc q rfl hK0 rfl
              | false =>
                cases a5 with
                | true => exact some_at a0 len0 cap0 A1 A2 A3 A7 m n o a xs a4 true false a8 w hl hkm hkc h1 h2 h3 h7 hm hn ho hm' hn' ho' hA ha ha256 hsrc q rfl hK0 (by omega) rfl
                | false => exact some_af a0 len0 cap0 A1 A2 A3 A7 m n o a xs a4 false false a8 w hl hkm hkc h1 h2 h3 h7 hm hn ho hm' hn' ho' hA ha ha256 hsrc q rfl hK0 (by omega) rfl
          · by_cases hn0 : 0 < n
            · cases a6 with
              | true =>
                cases a5 with
                | true => exact discC_at a0 len0 cap0 A1 A2 A3 A7 m n o a xs a4 true true a8 w hl hkm hkc h1 h2 h3 h7 hm hn ho hm' hn' ho' hA ha ha256 hsrc q rfl (by omega) hn0 rfl
                | false => exact discC_af a0 len0 cap0 A1 A2 A3 A7 m n o a xs a4 false true a8 w hl hkm hkc h1 h2 h3 h7 hm hn ho hm' hn' ho' hA ha ha256 hsrc q rfl (by omega) hn0 rfl
              | false =>
                cases a5 with
                | true => exact discD_at a0 len0 cap0 A1 A2 A3 A7 m n o a xs a4 true false a8 w hl hkm hkc h1 h2 h3 h7 hm hn ho hm' hn' ho' hA ha ha256 hsrc q rfl (by omega) hn0 rfl
                | false => exact discD_af a0 len0 cap0 A1 A2 A3 A7 m n o a xs a4 false false a8 w hl hkm hkc h1 h2 h3 h7 hm hn ho hm' hn' ho' hA ha ha256 hsrc q rfl (by omega) hn0 rfl
            · cases a5 with
              | true => exact none_at a0 len0 cap0 A1 A2 A3 A7 m n o a xs a4 true a6 a8 w hl hkm hkc h1 h2 h3 h7 hm hn ho hm' hn' ho' hA ha ha256 hsrc q rfl (by omega) (by omega)
              | false => exact none_af a0 len0 cap0 A1 A2 A3 A7 m n o a xs a4 false a6 a8 w hl hkm hkc h1 h2 h3 h7 hm hn ho hm' hn' ho' hA ha ha256 hsrc q rfl (by omega) (by omega)
        · cases a5 with
          | true => exact hunt_a a0 len0 cap0 A1 A2 A3 A7 m n o a xs a4 true a6 a8 w hl hkm hkc h1 h2 h3 h7 hm hn ho hm' hn' ho' hA ha ha256 hsrc rfl (by simp; omega)
          | false => exact hunt7_a a0 len0 cap0 A1 A2 A3 A7 m n o a xs a4 false a6 a8 w hl hkm hkc h1 h2 h3 h7 hm hn ho hm' hn' ho' hA ha ha256 hsrc rfl (by simp; omega) (by simp; omega))
  · have hl' : 1024 < len0 := by omega
    clear w0 w1 w2 w3 w7
    go_enter Yba.func3, Yba.ntmps3
    go_wp2
    go_ret
    exact ⟨rfl, Below.refl _ _⟩

/-! ### THE ROW's STEP: WRITTEN OUT: LEAVE IT -/
set_option maxRecDepth 100000 in
theorem lifted (os : Os) (started : os.Started) (H : Type) (enc : TypeId × Value → H) :
    ReturnsInHanded {} Yba.checked os 3 .any (Rows.lawS4867CSettleSpec.pre6 enc Yba.prog Yba.f3 Rows.lawS4867CSettleRow.domain false) (Rows.lawS4867CSettleSpec.post enc Yba.prog Yba.f3 false true false false) := by
  refine returnsInHanded_of_change (C := Yba.checked) own started (by kernel_rfl) Yba.func3
    (ChangeSpec.witness6 (enc := enc) (C := Yba.checked) false ⟨#[], #[.slice none 0 0, .int .u8 0, .int .u8 0, .int .u8 0, .bool false, .bool false, .bool false, .int .u16 0, .int .i64 0], []⟩ 8 (by kernel_rfl) (by kernel_rfl) (by kernel_rfl) (by kernel_rfl)) ?_
  intro W base args ds gs before hval0 hW hcnd _
  have hval : ∀ (j : Nat) t v, Yba.f3.params[j]? = some t → args[j]? = some v → Value.okWide Yba.prog W .any base t v := hval0
  have hW' := hW
  obtain ⟨p, q, hA0, hV, rfl, hfz, hnd⟩ := hW
  have hA : DataW.TrodAll enc Yba.prog W 0 (fun _ => true) true Yba.f3.params.toList args.toList ds p := hA0
  rw [Yba.params3] at hA hval
  obtain ⟨v0, vs0, d0, ds0, p0, q0, hargs, rfl, rfl, h0, r0⟩ := trodAll_cons hA
  obtain ⟨v1, vs1, d1, ds1, p1, q1, rfl, rfl, rfl, h1, r1⟩ := trodAll_cons r0
  obtain ⟨v2, vs2, d2, ds2, p2, q2, rfl, rfl, rfl, h2, r2⟩ := trodAll_cons r1
  obtain ⟨v3, vs3, d3, ds3, p3, q3, rfl, rfl, rfl, h3, r3⟩ := trodAll_cons r2
  obtain ⟨v4, vs4, d4, ds4, p4, q4, rfl, rfl, rfl, h4, r4⟩ := trodAll_cons r3
  obtain ⟨v5, vs5, d5, ds5, p5, q5, rfl, rfl, rfl, h5, r5⟩ := trodAll_cons r4
  obtain ⟨v6, vs6, d6, ds6, p6, q6, rfl, rfl, rfl, h6, r6⟩ := trodAll_cons r5
  obtain ⟨v7, vs7, d7, ds7, p7, q7, rfl, rfl, rfl, h7, r7⟩ := trodAll_cons r6
  obtain ⟨v8, vs8, d8, ds8, p8, q8, rfl, rfl, rfl, h8, r8⟩ := trodAll_cons r7
  obtain ⟨rfl, rfl, rfl⟩ := trodAll_nil r8
  obtain rfl : args = #[v0, v1, v2, v3, v4, v5, v6, v7, v8] := by cases args; simp_all
  obtain ⟨rfl, rfl⟩ := trodVars_none hV
  obtain ⟨a0, len0, cap0, rfl⟩ := okWide_slice Yba.underlying22 (hval 0 22 v0 rfl rfl)
  have k0 := h0
  have lt0 : ∀ x ∈ p0, x.block < W.heap.size := by obtain ⟨m, hm⟩ := k0; exact DataW.trod_lt m _ _ _ hm
  obtain ⟨z0, w0⟩ : ∃ zs, IsRow .u8 W a0 len0 cap0 zs := by
    obtain ⟨fuel, hf⟩ := h0
    rcases open_ints Yba.underlying22 Yba.underlying5 (by kernel_rfl) hf with ⟨hcs, _⟩ | ⟨x, l, c, zs, hcs, _, hl, hm, hz, _, hcell, hwz⟩
    · simp [Value.cells] at hcs
      obtain ⟨rfl, rfl, rfl⟩ := hcs
      exact ⟨[], .inl ⟨rfl, rfl, rfl, rfl⟩⟩
    · simp [Value.cells] at hcs
      obtain ⟨rfl, rfl, rfl⟩ := hcs
      exact ⟨zs, .inr ⟨_, rfl, hl, hm, by simpa using hz, hcell, hwz⟩⟩
  obtain ⟨a1, rfl, rfl, rfl, w1⟩ := open_int Yba.underlying5 (hval 1 5 v1 rfl rfl) h1
  obtain ⟨a2, rfl, rfl, rfl, w2⟩ := open_int Yba.underlying5 (hval 2 5 v2 rfl rfl) h2
  obtain ⟨a3, rfl, rfl, rfl, w3⟩ := open_int Yba.underlying5 (hval 3 5 v3 rfl rfl) h3
  obtain ⟨a4, rfl, rfl, rfl⟩ := open_bool Yba.underlying4 (hval 4 4 v4 rfl rfl) h4
  obtain ⟨a5, rfl, rfl, rfl⟩ := open_bool Yba.underlying4 (hval 5 4 v5 rfl rfl) h5
  obtain ⟨a6, rfl, rfl, rfl⟩ := open_bool Yba.underlying4 (hval 6 4 v6 rfl rfl) h6
  obtain ⟨a7, rfl, rfl, rfl, w7⟩ := open_int Yba.underlying23 (hval 7 23 v7 rfl rfl) h7
  obtain ⟨a8, rfl, rfl, rfl, w8⟩ := open_int Yba.underlying3 (hval 8 3 v8 rfl rfl) h8
  clear hA0 hval0
  refine (walk a0 len0 cap0 z0 a1 a2 a3 a4 a5 a6 a7 a8 W w0 w1 w2 w3 w7 w8).mono fun e W' ⟨he, bel⟩ => ?_
  subst he
  exact ⟨_, rfl, _, _, _, [], _, [], hW', trodAll_mk1 (shut_bool Yba.underlying4 _), (trodAll_cons_mk (Below.trod laidOut (by kernel_rfl) (of_decide_eq_true (by kernel_rfl)) k0 bel lt0) (trodAll_cons_mk (shut_int Yba.underlying5 w1) (trodAll_cons_mk (shut_int Yba.underlying5 w2) (trodAll_cons_mk (shut_int Yba.underlying5 w3) (trodAll_cons_mk (shut_bool Yba.underlying4 _) (trodAll_cons_mk (shut_bool Yba.underlying4 _) (trodAll_cons_mk (shut_bool Yba.underlying4 _) (trodAll_cons_mk (shut_int Yba.underlying23 w7) (trodAll_cons_mk (shut_int Yba.underlying3 w8) trodAll_mk0))))))))), rfl, bel.frame _, fun h => by cases h⟩

theorem over : Rows.lawS4867CSettleRow.holds Yba.pinned (OpenSpec.ofChange Rows.lawS4867CSettleSpec) :=
  OpenClaim.holds_of_wide 3 Yba.f3 rfl rfl rfl rfl rfl rfl rfl ⟨rfl, rfl, rfl, rfl, rfl⟩ rfl rfl rfl rfl rfl (by kernel_rfl) Yba.func3 (by kernel_rfl)
    (of_decide_eq_true (by kernel_rfl)) (by unfold Func.isWrapper; first | (rw [if_pos (by decide +kernel)]; kernel_rfl) | (rw [if_neg (by decide +kernel)]; exact ⟨rfl, rfl⟩))
    (fun os started H enc _ => lifted os started H enc)

/-- ████ THE STATEMENT ████ -/
theorem proved : Rows.LawS4867CSettleSaid := over
end Go.Proofs.Ybulkcvts.lawS4867CSettle

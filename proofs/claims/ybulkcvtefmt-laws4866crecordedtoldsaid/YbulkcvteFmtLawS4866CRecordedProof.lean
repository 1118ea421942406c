/- The proof of 'Rows.LawS4866CRecordedToldSaid': the row (its listed variable turned to the walk's one fact), then the told and tied card. -/
import Derived.Test.YbulkcvteFmtRows
import Derived.Test.YbulkcvteFmtTie
import Derived.Test.YbulkcvteFmtCards
import Derived.Test.YbulkcvteFmtLaw3
import Derived.WalkKit
import Derived.ProofKit
import Derived.OpenShut
import Derived.OpenVars
import Derived.ChangeOld
import Derived.Below
import Derived.LaidMore
import Derived.LaidHandle
import Derived.Stop.Joined
import Derived.Stop.JoinedTold
import Derived.SevenTiedAt
import Derived.Lib.LaidTab
import Derived.Deep.DeepWitnessRef
namespace Go.Proofs.YbulkcvteFmt.lawS4866CRecorded
open Go.ChangeShapes Go.WideShapes Go.ChangeAt Go.RowKit
set_option linter.unusedVariables false

theorem own : ownKnob Ybaf.prog.godebug = none := by kernel_rfl
theorem laidOut : laidOutB Ybaf.prog = true := by kernel_rfl
/-- The row's condition. -/
def lay : List (String × DataW Unit) := Rows.lawS4866CRecordedRow.laid
def nameP : String := (lay.map (·.1)).headD ""
theorem gP : Ybaf.prog.globalNamed nameP = some 0 := by kernel_rfl
theorem tP : (Ybaf.prog.globals[0]?).map (·.type) = some 105 := by kernel_rfl
theorem c104 : Ybaf.prog.cellsOf 104 = 4 := by kernel_rfl
theorem c105 : Ybaf.prog.cellsOf 105 = 20 := by kernel_rfl
theorem c9 : Ybaf.prog.cellsOf 9 = 1 := by kernel_rfl

theorem bytes_ext {s t : ByteArray} (h : s.data.toList = t.data.toList) : s = t := by
  obtain ⟨⟨a⟩⟩ := s
  obtain ⟨⟨b⟩⟩ := t
  simp at h
  subst h
  rfl

set_option maxRecDepth 100000 in
/-- What the row's condition gives the walk. -/
theorem of_laid {W : World} (h : laidMetH Ybaf.prog lay W) : W.cell? ⟨0, 13, none⟩ = some (.string tagB) ∧ 0 < W.heap.size := by
  rw [MakeChecks.laidMetH_plain _ _ _ (by kernel_rfl)] at h
  have h2 : laidMet Ybaf.prog ((nameP, Rows.laid_example_com_synod_synod_phases) :: []) W := h
  obtain ⟨ps, ⟨g', t', cs, fuel, p, q, hg', ht', hvar, hd, _, _⟩, _⟩ := h2
  obtain rfl := Option.some.inj (gP.symm.trans hg')
  obtain rfl := Option.some.inj (tP.symm.trans ht')
  obtain ⟨xs, m, _, hx, hl, hxl, hel⟩ := DataW.trod_array Ybaf.underlying105 hd
  have hx1 : (DataW.agg (xs.map (·.1)) : DataW Unit) = Rows.laid_example_com_synod_synod_phases := (congrArg Prod.fst hx).symm
  unfold Rows.laid_example_com_synod_synod_phases at hx1
  simp only [DataW.agg.injEq] at hx1
  have h3 := hel 3 (by omega)
  rw [c104] at h3
  have e3 := congrArg (·[3]?) hx1
  simp only [List.getElem?_map, List.getElem?_cons_succ, List.getElem?_cons_zero, Option.map_eq_some_iff] at e3
  obtain ⟨x3, hx3, e3⟩ := e3
  rw [hx3] at h3
  obtain ⟨ys, n, _, hy, hyl, hyn, hfs⟩ := DataW.trod_struct Ybaf.underlying104 h3
  have hy1 : (DataW.agg (ys.map (·.1)) : DataW Unit) = x3.1 := (congrArg Prod.fst hy).symm
  rw [e3] at hy1
  simp only [DataW.agg.injEq] at hy1
  have e4 := congrArg (·[1]?) hy1
  simp only [List.getElem?_map, List.getElem?_cons_succ, List.getElem?_cons_zero, Option.map_eq_some_iff] at e4
  obtain ⟨y1, hy1', e4⟩ := e4
  have h4 : DataW.trod (fun _ => ()) Ybaf.prog W 0 (fun _ => true) false n 9 (((((cs.toList.drop (3 * 4)).take 4)).drop 1).take (Ybaf.prog.cellsOf 9)) = ys[1]? := hfs 1 _ rfl
  rw [hy1', c9] at h4
  obtain ⟨s, hs, es, _⟩ := DataW.trod_string Ybaf.underlying9 h4
  rw [es] at e4
  simp only [DataW.lit.injEq, Lit.string.injEq] at e4
  have hsT : s = tagB := bytes_ext e4
  have hc := World.var?_cell gP hvar 13
  have h13 : cs.toList[13]? = some (.string s) := by
    have := congrArg (·[0]?) hs
    simpa [List.getElem?_take, List.getElem?_drop] using this
  have hc' : W.cell? ⟨0, 13, none⟩ = some (.string tagB) := by
    rw [hc, ← hsT]
    simpa using h13
  refine ⟨hc', ?_⟩
  rcases Nat.lt_or_ge 0 W.heap.size with h | h
  · exact h
  · simp [World.cell?, Array.getElem?_eq_none h] at hc'

/-- The door's own heap meets the condition. -/
theorem door_met (os : Os) (args : Array Value) : laidMetH Ybaf.prog lay ((World.doorLaid Ybaf.prog 400 os).forCall (fun _ _ => 0) ⟨#[], args, []⟩).memory :=
  laidMetH_of_parts3 (fuel := 8) (laidMet_of_run' 8 (by kernel_rfl) (by kernel_rfl)) (by kernel_rfl) (by kernel_rfl)

theorem plain_at {w : World} {x : Addr} {v : Value} (h : w.cell? (x.add 0) = some v) : ∃ b o, x = ⟨b, o, none⟩ ∧ b < w.heap.size := by
  obtain ⟨b, o, sp⟩ := x
  have hs : sp = none := by simpa [Addr.add] using World.cell?_spot h
  subst hs
  rw [Go.WideShapes.add_plain] at h
  refine ⟨b, o, rfl, ?_⟩
  rcases Nat.lt_or_ge b w.heap.size with hb | hb
  · exact hb
  · simp [World.cell?, Array.getElem?_eq_none hb] at h
theorem u8_nat {n : Int} (h : (Lit.int .u8 n).wf = true) : ∃ k : Nat, n = k ∧ k < 256 := by
  have := h
  simp [Lit.wf, IntKind.min, IntKind.max, IntKind.signed, IntKind.bits] at this
  exact ⟨n.toNat, by omega, by omega⟩
theorem u16_nat {n : Int} (h : (Lit.int .u16 n).wf = true) : ∃ k : Nat, n = k ∧ k < 65536 := by
  have := h
  simp [Lit.wf, IntKind.min, IntKind.max, IntKind.signed, IntKind.bits] at this
  exact ⟨n.toNat, by omega, by omega⟩
theorem u32_nat {n : Int} (h : (Lit.int .u32 n).wf = true) : ∃ k : Nat, n = k ∧ k < 4294967296 := by
  have := h
  simp [Lit.wf, IntKind.min, IntKind.max, IntKind.signed, IntKind.bits] at this
  exact ⟨n.toNat, by omega, by omega⟩
theorem u64_nat {n : Int} (h : (Lit.int .u64 n).wf = true) : ∃ k : Nat, n = k ∧ k < 18446744073709551616 := by
  have := h
  simp [Lit.wf, IntKind.min, IntKind.max, IntKind.signed, IntKind.bits] at this
  exact ⟨n.toNat, by omega, by omega⟩

/-- A slice of bytes, as the walk is told of it. -/
theorem open_bys {H : Type} {enc : TypeId × Value → H} {W : World} {a : Option Addr} {len cap : Nat} {d : DataW H} {p : List MemPlace} (h : DataW.Trod enc Ybaf.prog W 0 (fun _ => true) true 23 (.slice a len cap) d p) : ∃ r, BytesAt W a len r := by
  obtain ⟨fuel, hf⟩ := h
  rcases open_ints Ybaf.underlying23 Ybaf.underlying5 (by kernel_rfl) hf with ⟨hcs, _⟩ | ⟨x, l, c, zs, hcs, _, hl, hm, hz, _, hcell, hwz⟩
  · simp [Value.cells] at hcs
    obtain ⟨rfl, rfl, rfl⟩ := hcs
    exact ⟨fun _ => 0, fun i => Nat.zero_lt_succ _, fun i hi => by omega⟩
  · simp [Value.cells] at hcs
    obtain ⟨rfl, rfl, rfl⟩ := hcs
    have hz' : zs.length = cap := by simpa using hz
    refine ⟨fun i => (zs.getD i 0).toNat, fun i => ?_, fun i hi => ?_⟩
    · rcases Nat.lt_or_ge i zs.length with h | h
      · obtain ⟨k, e, hk⟩ := u8_nat (hwz _ (List.getElem_mem h))
        simp [List.getD, h, e]
        omega
      · simp [List.getD, h]
    · have h1 := hcell i (by omega)
      obtain ⟨b, o, rfl, hlt⟩ := plain_at (hcell 0 (by omega))
      rw [Go.WideShapes.add_plain] at h1
      obtain ⟨k, e, hk⟩ := u8_nat (hwz (zs.getD i 0) (by simp [List.getD, show i < zs.length by omega]))
      refine ⟨b, o, rfl, hlt, ?_⟩
      show _ = some (Value.int .u8 (((zs.getD i 0).toNat : Nat) : Int))
      rw [h1, e]
      rfl

set_option maxRecDepth 100000 in
theorem lifted (os : Os) (started : os.Started) (H : Type) (enc : TypeId × Value → H) :
    ReturnsInTold none {} Ybaf.checked os 3 .any Input.okWide ((OpenSpec.ofChange Rows.lawS4866CRecordedSpec).preRow enc Ybaf.prog Ybaf.f3 [] false lay)
      (fun F => ((OpenSpec.ofChange Rows.lawS4866CRecordedSpec).at F).post enc Ybaf.prog Ybaf.f3 false true false false) (aloneAtReturn Ybaf.prog) nothingAlways := by
  refine returnsInTold_of_row (C := Ybaf.checked) (s := OpenSpec.ofChange Rows.lawS4866CRecordedSpec) (by kernel_rfl) own started (by kernel_rfl) Ybaf.func3
    (OpenSpec.witness_stopped_at (enc := enc) (C := Ybaf.checked) false (World.doorLaid Ybaf.prog 400 os) #[.int .u16 0, .int .u16 0, .slice none 0 0, .int .u64 0, .int .u16 0, .int .u8 0, .int .u8 0, .slice none 0 0, .int .u32 0, .int .u8 0, .int .u8 0] rfl (by kernel_rfl) (by kernel_rfl) (by kernel_rfl)
      (OpenSpec.preRow_of_B rfl 8 (by kernel_rfl) (by kernel_rfl) (door_met os _))) ?_
  intro F W base args ds gs before _ hF hval0 hW _ _ _ hL _
  have hval : ∀ (j : Nat) t v, Ybaf.f3.params[j]? = some t → args[j]? = some v → Value.okWide Ybaf.prog W .any base t v := hval0
  have hW' := hW
  obtain ⟨p, q, hA0, hV0, rfl, hfz, hnd⟩ := hW
  have hA : DataW.TrodAll enc Ybaf.prog W 0 (fun _ => true) true Ybaf.f3.params.toList args.toList ds p := hA0
  have hV : DataW.TrodVars enc Ybaf.prog W (fun _ => true) [nameP] gs q := hV0
  rw [Ybaf.params3] at hA hval
  obtain ⟨v0, vs0, d0, ds0, p0, q0, hargs, rfl, rfl, h0, r0⟩ := trodAll_cons hA
  obtain ⟨v1, vs1, d1, ds1, p1, q1, rfl, rfl, rfl, h1, r1⟩ := trodAll_cons r0
  obtain ⟨v2, vs2, d2, ds2, p2, q2, rfl, rfl, rfl, h2, r2⟩ := trodAll_cons r1
  obtain ⟨v3, vs3, d3, ds3, p3, q3, rfl, rfl, rfl, h3, r3⟩ := trodAll_cons r2
  obtain ⟨v4, vs4, d4, ds4, p4, q4, rfl, rfl, rfl, h4, r4⟩ := trodAll_cons r3
  obtain ⟨v5, vs5, d5, ds5, p5, q5, rfl, rfl, rfl, h5, r5⟩ := trodAll_cons r4
  obtain ⟨v6, vs6, d6, ds6, p6, q6, rfl, rfl, rfl, h6, r6⟩ := trodAll_cons r5
  obtain ⟨v7, vs7, d7, ds7, p7, q7, rfl, rfl, rfl, h7, r7⟩ := trodAll_cons r6
  obtain ⟨v8, vs8, d8, ds8, p8, q8, rfl, rfl, rfl, h8, r8⟩ := trodAll_cons r7
  obtain ⟨v9, vs9, d9, ds9, p9, q9, rfl, rfl, rfl, h9, r9⟩ := trodAll_cons r8
  obtain ⟨v10, vs10, d10, ds10, p10, q10, rfl, rfl, rfl, h10, r10⟩ := trodAll_cons r9
  obtain ⟨rfl, rfl, rfl⟩ := trodAll_nil r10
  obtain rfl : args = #[v0, v1, v2, v3, v4, v5, v6, v7, v8, v9, v10] := by cases args; simp_all
  obtain ⟨g1, rfl⟩ : ∃ g1, gs = [g1] := by
    match gs, hV with
    | [g], _ => exact ⟨g, rfl⟩
    | [], h => exact h.elim
    | a :: b :: r, h => obtain ⟨_, _, _, _, _, _, _, _, _, _, h', _⟩ := h; exact h'.elim
  obtain ⟨a0, rfl, rfl, rfl, w0⟩ := open_int Ybaf.underlying22 (hval 0 22 v0 rfl rfl) h0
  obtain ⟨a1, rfl, rfl, rfl, w1⟩ := open_int Ybaf.underlying22 (hval 1 22 v1 rfl rfl) h1
  obtain ⟨a2, len2, cap2, rfl⟩ := okWide_slice Ybaf.underlying23 (hval 2 23 v2 rfl rfl)
  obtain ⟨a3, rfl, rfl, rfl, w3⟩ := open_int Ybaf.underlying24 (hval 3 24 v3 rfl rfl) h3
  obtain ⟨a4, rfl, rfl, rfl, w4⟩ := open_int Ybaf.underlying22 (hval 4 22 v4 rfl rfl) h4
  obtain ⟨a5, rfl, rfl, rfl, w5⟩ := open_int Ybaf.underlying5 (hval 5 5 v5 rfl rfl) h5
  obtain ⟨a6, rfl, rfl, rfl, w6⟩ := open_int Ybaf.underlying5 (hval 6 5 v6 rfl rfl) h6
  obtain ⟨a7, len7, cap7, rfl⟩ := okWide_slice Ybaf.underlying23 (hval 7 23 v7 rfl rfl)
  obtain ⟨a8, rfl, rfl, rfl, w8⟩ := open_int Ybaf.underlying25 (hval 8 25 v8 rfl rfl) h8
  obtain ⟨a9, rfl, rfl, rfl, w9⟩ := open_int Ybaf.underlying5 (hval 9 5 v9 rfl rfl) h9
  obtain ⟨a10, rfl, rfl, rfl, w10⟩ := open_int Ybaf.underlying5 (hval 10 5 v10 rfl rfl) h10
  have lt2 : ∀ x ∈ p2, x.block < W.heap.size := by obtain ⟨m, hm⟩ := h2; exact DataW.trod_lt m _ _ _ hm
  have lt7 : ∀ x ∈ p7, x.block < W.heap.size := by obtain ⟨m, hm⟩ := h7; exact DataW.trod_lt m _ _ _ hm
  obtain ⟨y2, b2⟩ := open_bys h2
  obtain ⟨y7, b7⟩ := open_bys h7
  obtain ⟨ht, h0s⟩ := of_laid hL
  obtain ⟨n0, rfl, k0⟩ := u16_nat w0
  obtain ⟨n1, rfl, k1⟩ := u16_nat w1
  obtain ⟨n3, rfl, k3⟩ := u64_nat w3
  obtain ⟨n4, rfl, k4⟩ := u16_nat w4
  obtain ⟨n5, rfl, k5⟩ := u8_nat w5
  obtain ⟨n6, rfl, k6⟩ := u8_nat w6
  obtain ⟨n8, rfl, k8⟩ := u32_nat w8
  obtain ⟨n9, rfl, k9⟩ := u8_nat w9
  obtain ⟨n10, rfl, k10⟩ := u8_nat w10
  clear hA0 hV0 hval0
  refine (law3 n0 n1 n3 n4 n5 n6 n8 n9 n10 a2 a7 len2 cap2 len7 cap7 y2 y7 W k0 k1 k3 k4 k5 k6 k8 k9 k10 b2 b7 h0s ht).mono fun e W' hpost => ?_
  obtain ⟨he, bel⟩ := hpost
  subst he
  exact ⟨_, rfl, _, _, _, [], _, _, hW', trodAll_mk1 (shut_bool Ybaf.underlying4 _),
    (trodAll_cons_mk (shut_int Ybaf.underlying22 w0) (trodAll_cons_mk (shut_int Ybaf.underlying22 w1) (trodAll_cons_mk (Below.trod laidOut (by kernel_rfl) (of_decide_eq_true (by kernel_rfl)) h2 bel lt2) (trodAll_cons_mk (shut_int Ybaf.underlying24 w3) (trodAll_cons_mk (shut_int Ybaf.underlying22 w4) (trodAll_cons_mk (shut_int Ybaf.underlying5 w5) (trodAll_cons_mk (shut_int Ybaf.underlying5 w6) (trodAll_cons_mk (Below.trod laidOut (by kernel_rfl) (of_decide_eq_true (by kernel_rfl)) h7 bel lt7) (trodAll_cons_mk (shut_int Ybaf.underlying25 w8) (trodAll_cons_mk (shut_int Ybaf.underlying5 w9) (trodAll_cons_mk (shut_int Ybaf.underlying5 w10) trodAll_mk0))))))))))),
    Below.trodVars laidOut bel (by kernel_rfl) hV, bel.frame _, fun h => by cases h⟩

theorem stopKnobs : Ybaf.pinned.checked.prog.stopKnobs = [] := by kernel_rfl
theorem quiet (os : Os) : Stop.quiet Ybaf.pinned.checked.prog os := by
  intro k hk
  rw [stopKnobs] at hk
  cases hk

/-- THE STATEMENT: the told and tied card. -/
theorem proved : Rows.LawS4866CRecordedToldSaid :=
  Claim7.holds_of_told_tied_any_at .later 3 Ybaf.f3 "fmt.errorf" [] [] (true, "c902307233dfb948083b86e6c404408e8ac1f37e93a51487257662c6838ceccf") false false [.data] true
    (by kernel_rfl) rfl rfl rfl laidOut (by kernel_rfl) rfl ⟨rfl, rfl, rfl, rfl, rfl, rfl, rfl⟩ rfl rfl (by kernel_rfl) (by kernel_rfl) Ybaf.func3 (by kernel_rfl)
    (of_decide_eq_true (by kernel_rfl)) (of_decide_eq_true (by kernel_rfl)) (by kernel_rfl) rfl (by kernel_rfl) (by kernel_rfl)
    (by kernel_rfl) (by kernel_rfl) (by kernel_rfl) (by kernel_rfl) (by kernel_rfl) (by kernel_rfl) (by kernel_rfl) (by kernel_rfl) (by kernel_rfl) rfl (by kernel_rfl) rfl rfl
    rfl rfl
    rfl (by kernel_rfl) (by kernel_rfl) (by kernel_rfl) (by decide) (by kernel_rfl) lawS4866CRecorded_row_tie
    (OpenClaim.moreEntering_of (by kernel_rfl) (by kernel_rfl) (by kernel_rfl) (by kernel_rfl) (by kernel_rfl) (by kernel_rfl) (by kernel_rfl) (by kernel_rfl) (by kernel_rfl) (by kernel_rfl))
    ⟨_, WideRow.started_initial, quiet _⟩
    (fun os started _ H enc _ => lifted os started H enc)
end Go.Proofs.YbulkcvteFmt.lawS4866CRecorded

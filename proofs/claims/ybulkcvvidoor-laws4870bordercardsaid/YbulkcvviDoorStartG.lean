/- 'startWait', with the exact frame. -/
import Derived.Test.YbulkcvviDoorStart
import Derived.Test.YbulkcvviDoorParkG
import Derived.BigRegion
namespace Go.Proofs.YbulkcvviDoor
open Go.RowKit

structure SpG (B D T n k : Nat) (sv : Value) (s : ByteArray) (v val : Int) (lk : Bool) (ts xs tk : List Value) (sq : Int) (Wt : Nat) (w w' : World) (cs' : List Value) (ad : Option Addr) (cap : Nat) (ad2 : Option Addr) (cap2 : Nat) : Prop where
  db : Blk w' D 69 cs'
  seq : cs'[1080]? = some (.int .i64 sq)
  work : cs'[1083]? = some (.slice ad2 (k + cntL lk) cap2)
  out : cs'[1084]? = some (.slice ad (n + (lineL s lk v).length) cap)
  ex : cs'[1087]? = some (.bool false)
  wt : Blk w' Wt 84 (wtC T s v val (whyI lk) sq)
  tx : Blk w' T 78 (ts.set 13 (.pointer (some ⟨Wt, 0, none⟩)))
  own : w'.ownsRow B 5 1 (.slice ad (n + (lineL s lk v).length) cap) (n + (lineL s lk v).length) (xs ++ Lib.byteCells (lineL s lk v))
  wk : w'.ownsRow B 28 5 (.slice ad2 (k + cntL lk) cap2) (k + cntL lk) (tk ++ tskL lk Wt)
  below : Below B w w'
  kept : ∀ b t cs, Blk w b t cs → some b ≠ sv.ownBlock → t ≠ 28 → b ≠ D → b ≠ T → Blk w' b t cs
  loc : Loc sv (.slice ad (n + (lineL s lk v).length) cap) w

theorem loc_mid {v v' : Value} {w w1 : World} {B : Nat} (h : Loc v v' w1) (hb : Below B w w1) : Loc v v' w := fun k hk => by
  have := hb.size
  rcases h k hk with h | h
  · exact .inl h
  · exact .inr (by omega)

set_option maxRecDepth 100000 in
set_option maxHeartbeats 2000000 in
set_option linter.unusedVariables false in
theorem start_noG (B D T n k : Nat) (sv : Value) (ad2 : Option Addr) (cap2 : Nat) (xs tk : List Value) (s : ByteArray) (v val wts : Int) (cs ts : List Value) (w : World)
    (hD : Blk w D 69 cs) (c80 : cs[1080]? = some (.int .i64 wts)) (c83 : cs[1083]? = some (.slice ad2 k cap2)) (c84 : cs[1084]? = some sv) (c87 : cs[1087]? = some (.bool false))
    (hT : Blk w T 78 ts) (t0 : ts[0]? = some (.string s)) (t13 : ∃ p, ts[13]? = some (.pointer p)) (hown : w.ownsRow B 5 1 sv n xs) (hwk : w.ownsRow B 28 5 (.slice ad2 k cap2) k tk) (hBD : B ≤ D) (hBT : B ≤ T) (hDT : D ≠ T)
    (hn : n ≤ 1000000) (hs : s.size ≤ 1024) (hk : k ≤ 10000) (h0 : -9223372036854775808 ≤ v) (h1 : v ≤ 9223372036854775807) (htab : Lib.TabBelow Ybad.prog B w Ybad.tabN .u64 Lib.pow10Tab) :
    Calls Ybad.prog 5 #[.pointer (some ⟨D, 0, none⟩), .pointer (some ⟨T, 0, none⟩), .agg #[.int .i64 0, .string s, .int .i64 v, .int .i64 0, .int .i64 val], .int .i64 0] w fun e w' => e = .returned (.tuple #[]) ∧
      ∃ cs' ad cap ad3 cap3, SpG B D T n k sv s v val false ts xs tk (wrap64 (wts + 1)) (w.heap.size + 1) w w' cs' ad cap ad3 cap3 := by
  obtain ⟨p13, t13⟩ := t13
  have d80 := hD.cell 1080 c80
  have f80 := hD.free 1080
  have e13 := hT.cell 13 t13
  have f13 := hT.free 13
  have lD := hD.lt
  have lT := hT.lt
  have H := mid B D T n k sv ad2 cap2 xs tk s v val wts cs ts w hD hT hown hwk hBD hBT hDT
  have HH : Hid (Mid B D T n k sv ad2 cap2 xs tk s v val wts cs ts w) := H
  have HT : Hid (Lib.TabBelow Ybad.prog B w Ybad.tabN .u64 Lib.pow10Tab) := htab
  clear H htab
  go_enter Ybad.func5, Ybad.ntmps5
  go_wp2_with fail
  go_region
  all_goals (go_wp2_with fail)
  refine (park_noG B D (w.heap.size + 1) T n sv xs s v 0 (cs.set 1080 (.int .i64 (wrap64 (wts + 1)))) (wtC T s v val 0 (wrap64 (wts + 1))) (ts.set 13 (.pointer (some ⟨w.heap.size + 1, 0, none⟩))) _ HH.out.db (HH.out.get84 c84) (HH.out.get87 c87) HH.out.wt rfl rfl rfl HH.out.tx (HH.out.get0 t0) HH.out.own hBD (by omega) (by omega) hn hs h0 h1 (HT.out.on HH.out.below)).mono ?_
  rintro e w' ⟨rfl, ad, cap, q1, q2, q3, q4, q5, q6, q7⟩
  go_wp2
  go_end0
  refine ⟨rfl, _, ad, cap, ad2, cap2, q1, ?_, ?_, ?_, ?_, q2, ?_, q3, by simpa [cntL, tskL] using q6 _ _ _ _ HH.out.wk, HH.out.below.trans q4, fun b t cs' hB h5 h28 hbD hbT => q5 b t cs' (HH.out.kept b t cs' hB hbD hbT) h5 h28 hbD (by have := hB.lt; omega), loc_mid q7 HH.out.below⟩
  · simp only [List.getElem?_set]; simp; exact HH.out.len80 c80
  · simp only [List.getElem?_set]; simp; exact c83
  · simp only [List.getElem?_set]; simp; exact len_of c84
  · simp only [List.getElem?_set]; simp; exact c87
  · exact q5 T 78 _ HH.out.tx (fun e => own_ne5 HH.out.own HH.out.tx (by decide) e.symm) (by decide) (Ne.symm hDT) (by omega)

set_option maxRecDepth 100000 in
set_option maxHeartbeats 2000000 in
theorem start_yesG (B D T n k : Nat) (sv : Value) (ad2 : Option Addr) (cap2 : Nat) (xs tk : List Value) (s : ByteArray) (v val wts : Int) (cs ts : List Value) (w : World)
    (hD : Blk w D 69 cs) (c80 : cs[1080]? = some (.int .i64 wts)) (c83 : cs[1083]? = some (.slice ad2 k cap2)) (c84 : cs[1084]? = some sv) (c87 : cs[1087]? = some (.bool false))
    (hT : Blk w T 78 ts) (t0 : ts[0]? = some (.string s)) (t13 : ∃ p, ts[13]? = some (.pointer p)) (hown : w.ownsRow B 5 1 sv n xs) (hwk : w.ownsRow B 28 5 (.slice ad2 k cap2) k tk) (hBD : B ≤ D) (hBT : B ≤ T) (hDT : D ≠ T)
    (hn : n ≤ 1000000) (hs : s.size ≤ 1024) (hk : k ≤ 10000) (h0 : -9223372036854775808 ≤ v) (h1 : v ≤ 9223372036854775807) (htab : Lib.TabBelow Ybad.prog B w Ybad.tabN .u64 Lib.pow10Tab) :
    Calls Ybad.prog 5 #[.pointer (some ⟨D, 0, none⟩), .pointer (some ⟨T, 0, none⟩), .agg #[.int .i64 0, .string s, .int .i64 v, .int .i64 0, .int .i64 val], .int .i64 2] w fun e w' => e = .returned (.tuple #[]) ∧
      ∃ cs' ad cap ad3 cap3, SpG B D T n k sv s v val true ts xs tk (wrap64 (wts + 1)) (w.heap.size + 1) w w' cs' ad cap ad3 cap3 := by
  obtain ⟨p13, t13⟩ := t13
  have d80 := hD.cell 1080 c80
  have f80 := hD.free 1080
  have e13 := hT.cell 13 t13
  have f13 := hT.free 13
  have lD := hD.lt
  have lT := hT.lt
  have H := mid B D T n k sv ad2 cap2 xs tk s v val wts cs ts w hD hT hown hwk hBD hBT hDT
  have HH : Hid (Mid B D T n k sv ad2 cap2 xs tk s v val wts cs ts w) := H
  have HT : Hid (Lib.TabBelow Ybad.prog B w Ybad.tabN .u64 Lib.pow10Tab) := htab
  clear H htab
  go_enter Ybad.func5, Ybad.ntmps5
  go_wp2_with fail
  go_region
  all_goals (go_wp2_with fail)
  refine (park_yesG B D (w.heap.size + 1) T n sv xs s v 0 (cs.set 1080 (.int .i64 (wrap64 (wts + 1)))) (wtC T s v val 0 (wrap64 (wts + 1))) (ts.set 13 (.pointer (some ⟨w.heap.size + 1, 0, none⟩))) _ HH.out.db (HH.out.get84 c84) (HH.out.get87 c87) HH.out.wt rfl rfl rfl HH.out.tx (HH.out.get0 t0) HH.out.own hBD (by omega) (by omega) hn hs h0 h1 (HT.out.on HH.out.below) (.slice ad2 k cap2) k tk (HH.out.get83 c83) HH.out.wk hk).mono ?_
  rintro e w' ⟨rfl, ad, cap, ad3, cap3, q1, q2, q3, q4, q5, q7, q6⟩
  go_wp2
  go_end0
  refine ⟨rfl, _, ad, cap, ad3, cap3, q1, ?_, ?_, ?_, ?_, q2, ?_, q3, q6, HH.out.below.trans q4, fun b t cs' hB h5 h28 hbD hbT => q5 b t cs' (HH.out.kept b t cs' hB hbD hbT) h5 h28 hbD (by have := hB.lt; omega), loc_mid q7 HH.out.below⟩
  · simp only [List.getElem?_set]; simp; exact HH.out.len80 c80
  · simp only [List.getElem?_set]; simp; exact ⟨len_of c83, rfl⟩
  · simp only [List.getElem?_set]; simp; exact len_of c84
  · simp only [List.getElem?_set]; simp; exact c87
  · exact q5 T 78 _ HH.out.tx (fun e => own_ne5 HH.out.own HH.out.tx (by decide) e.symm) (by decide) (Ne.symm hDT) (by omega)
end Go.Proofs.YbulkcvviDoor

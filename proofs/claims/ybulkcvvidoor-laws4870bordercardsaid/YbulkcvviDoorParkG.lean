/- 'park', with the exact frame. -/
import Derived.Test.YbulkcvviDoorPark
import Derived.Test.YbulkcvviDoorWaitG
namespace Go.Proofs.YbulkcvviDoor
open Go.RowKit

/-- v' lies in v's block or in a block that w has not. -/
def Loc (v v' : Value) (w : World) : Prop := ∀ k, v'.ownBlock = some k → v.ownBlock = some k ∨ w.heap.size ≤ k
/-- Blocks that are not sv's own, no row of tasks, and neither D nor W, stand. -/
def KpG (sv : Value) (w w' : World) (D W : Nat) : Prop := ∀ b t cs, Blk w b t cs → some b ≠ sv.ownBlock → t ≠ 28 → b ≠ D → b ≠ W → Blk w' b t cs

/-- What the call of 'appendWait' leaves, in the words that 'park' wants. -/
def AwG (B D Wt n : Nat) (sv : Value) (cs ws xs : List Value) (L : List UInt8) (w : World) (e : Ending) (w' : World) : Prop :=
  ∃ ad cap, e = .returned (.slice ad (n + L.length) cap) ∧ Blk w' D 69 cs ∧ Blk w' Wt 84 ws ∧ w'.ownsRow B 5 1 (.slice ad (n + L.length) cap) (n + L.length) (xs ++ Lib.byteCells L) ∧ Below B w w' ∧ (∀ b t cs, Blk w b t cs → some b ≠ sv.ownBlock → b ≠ Wt → Blk w' b t cs) ∧
    (∀ k v j zs, w.ownsRow B 28 k v j zs → w'.ownsRow B 28 k v j zs) ∧ Loc sv (.slice ad (n + L.length) cap) w

theorem aw_anyG (B D Wt n : Nat) (sv : Value) (xs : List Value) (s : ByteArray) (lk : Bool) (v : Int) (y : Value) (cs ws : List Value) (w : World) (hD : Blk w D 69 cs) (hW : Blk w Wt 84 ws) (hown : w.ownsRow B 5 1 sv n xs) (hBW : B ≤ Wt) (hDW : D ≠ Wt) (hn : n ≤ 1000000) (hs : s.size ≤ 1024) (h0 : -9223372036854775808 ≤ v) (h1 : v ≤ 9223372036854775807)
    (htab : Lib.TabBelow Ybad.prog B w Ybad.tabN .u64 Lib.pow10Tab) (W : World) (hSm : Sm W (w.setCell ⟨Wt, 6, none⟩ y)) :
    Calls Ybad.prog 13 #[sv, .string s, .int .i64 (whyI lk), .int .i64 v] W fun e w' => AwG B D Wt n sv cs (ws.set 6 y) xs (lineL s lk v) w e w' := by
  have hb1 : Below B w W := hSm.below ((Below.refl _ _).setCell hBW _)
  have hBs : B ≤ W.heap.size := by rw [hSm.1, size_setCell]; have := hW.lt; omega
  refine (waitG B n sv xs s lk v W (hSm.own (own_set hown hW (by decide) 6 y)) hBs hn hs h0 h1 (htab.on hb1)).mono ?_
  rintro e w' ⟨ad, cap, rfl, ho, hG⟩
  have hown' := hSm.own (own_set hown hW (by decide) 6 y)
  have hb := hG.below hown' hBs
  refine ⟨ad, cap, rfl, (hSm.blk (hD.other (by simpa using hDW) _)).grown hG.by' (own_ne5 hown hD (by decide)), (hSm.blk (hW.set 6 y)).grown hG.by' (own_ne5 hown hW (by decide)), ho, hb1.trans hb, fun b t cs' hB ht hne => (hSm.blk (hB.other (by simpa using hne) _)).grown hG.by' (fun e => ht e.symm), fun k v' j zs hz => ?_, fun k hk => ?_⟩
  · have h2 := hSm.own (own_set hz hW (by decide) 6 y)
    obtain ⟨hl, hx | ⟨g, c, cur, he, hg, hh, hr⟩⟩ := h2
    · exact ⟨hl, .inl hx⟩
    · refine ⟨hl, .inr ⟨g, c, cur, he, hg, ?_, hr⟩⟩
      rw [hG.by'.block g (lt_of_block hh) (fun e => ?_)]
      · exact hh
      · obtain ⟨_, ⟨rfl, _⟩ | ⟨g2, c2, cur2, rfl, _, hh2, _⟩⟩ := hown'
        · cases e
        · simp [Value.ownBlock] at e; subst e; rw [hh] at hh2; simp at hh2
  · have := hG.at' k hk
    rwa [hSm.1, size_setCell] at this

/-- Behind the store of 'out'. -/
def PkG (B D Wt n : Nat) (sv : Value) (cs ws xs : List Value) (L : List UInt8) (w w' : World) : Prop :=
  ∃ ad cap, Blk w' D 69 (cs.set 1084 (.slice ad (n + L.length) cap)) ∧ Blk w' Wt 84 ws ∧ w'.ownsRow B 5 1 (.slice ad (n + L.length) cap) (n + L.length) (xs ++ Lib.byteCells L) ∧ Below B w w' ∧ KpG sv w w' D Wt ∧ (∀ k v j zs, w.ownsRow B 28 k v j zs → w'.ownsRow B 28 k v j zs) ∧ Loc sv (.slice ad (n + L.length) cap) w
theorem aw_pkG {B D Wt n : Nat} {sv : Value} {cs ws xs : List Value} {L : List UInt8} {w w2 : World} {ad : Option Addr} {cap : Nat} (hBD : B ≤ D) (hDW : D ≠ Wt) (h1 : Blk w2 D 69 cs) (h2 : Blk w2 Wt 84 ws) (h3 : w2.ownsRow B 5 1 (.slice ad (n + L.length) cap) (n + L.length) (xs ++ Lib.byteCells L)) (h4 : Below B w w2)
    (h5 : ∀ b t cs, Blk w b t cs → some b ≠ sv.ownBlock → b ≠ Wt → Blk w2 b t cs) (h6 : ∀ k v j zs, w.ownsRow B 28 k v j zs → w2.ownsRow B 28 k v j zs) (h7 : Loc sv (.slice ad (n + L.length) cap) w) :
    PkG B D Wt n sv cs ws xs L w (w2.setCell ⟨D, 1084, none⟩ (.slice ad (n + L.length) cap)) :=
  ⟨ad, cap, h1.set 1084 _, h2.other (by simpa using hDW.symm) _, own_set h3 h1 (by decide) _ _, h4.setCell hBD _, fun b t cs' hB ht _ hbD hbW => (h5 b t cs' hB ht hbW).other (by simpa using hbD) _, fun k v j zs hz => own_set (h6 k v j zs hz) h1 (by decide) _ _, h7⟩

set_option maxRecDepth 100000 in
set_option maxHeartbeats 2000000 in
theorem park_noG (B D Wt T n : Nat) (sv : Value) (xs : List Value) (s : ByteArray) (v z : Int) (cs ws ts : List Value) (w : World)
    (hD : Blk w D 69 cs) (c84 : cs[1084]? = some sv) (c87 : cs[1087]? = some (.bool false)) (hW : Blk w Wt 84 ws) (q0 : ws[0]? = some (.pointer (some ⟨T, 0, none⟩))) (q3 : ws[3]? = some (.int .i64 v)) (q6 : ws[6]? = some (.int .i64 z))
    (hT : Blk w T 78 ts) (t0 : ts[0]? = some (.string s)) (hown : w.ownsRow B 5 1 sv n xs) (hBD : B ≤ D) (hBW : B ≤ Wt) (hDW : D ≠ Wt) (hn : n ≤ 1000000) (hs : s.size ≤ 1024) (h0 : -9223372036854775808 ≤ v) (h1 : v ≤ 9223372036854775807)
    (htab : Lib.TabBelow Ybad.prog B w Ybad.tabN .u64 Lib.pow10Tab) :
    Calls Ybad.prog 9 #[.pointer (some ⟨D, 0, none⟩), .pointer (some ⟨Wt, 0, none⟩), .int .i64 0] w fun e w' => e = .returned (.tuple #[]) ∧ PkG B D Wt n sv cs (ws.set 6 (.int .i64 0)) xs (lineL s false v) w w' := by
  have d84 := hD.cell 1084 c84
  have d87 := hD.cell 1087 c87
  have e0 := hW.cell 0 q0
  have e3 := hW.cell 3 q3
  have e6 := hW.cell 6 q6
  have f6 := hW.free 6
  have tt := hT.cell 0 t0
  go_enter Ybad.func9, Ybad.ntmps9
  go_wp2_with fail
  have hcall : Hid (∀ W, Sm W (w.setCell ⟨Wt, 6, none⟩ (.int .i64 0)) → Calls Ybad.prog 13 #[sv, .string s, .int .i64 0, .int .i64 v] W fun e w' => AwG B D Wt n sv cs (ws.set 6 (.int .i64 0)) xs (lineL s false v) w e w') :=
    fun W hSm => aw_anyG B D Wt n sv xs s false v (.int .i64 0) cs ws w hD hW hown hBW hDW hn hs h0 h1 htab W hSm
  go_region_with (go_at_call 13; refine (hcall.out _ ?_).mono ?_; exact ⟨rfl, rfl, rfl, rfl⟩; rintro e w2 ⟨ad, cap, rfl, hD2, hW2, hO2, hb2, hk2, hr2, hl2⟩; have x84 := hD2.cell 1084 c84; have y84 := hD2.free 1084)
  all_goals (go_wp2; go_end0; exact ⟨rfl, aw_pkG hBD hDW ‹_› ‹_› ‹_› ‹_› ‹_› ‹_› ‹_›⟩)

/-- What 'park' leaves where the wait is for a lock. -/
def PlG (B D Wt n : Nat) (sv : Value) (xs : List Value) (s : ByteArray) (v : Int) (cs ws : List Value) (w : World) (k : Nat) (tk : List Value) (w' : World) : Prop :=
  ∃ ad cap ad2 cap2, Blk w' D 69 ((cs.set 1084 (.slice ad (n + (lineL s true v).length) cap)).set 1083 (.slice ad2 (k + 1) cap2)) ∧ Blk w' Wt 84 (ws.set 6 (.int .i64 2)) ∧ w'.ownsRow B 5 1 (.slice ad (n + (lineL s true v).length) cap) (n + (lineL s true v).length) (xs ++ Lib.byteCells (lineL s true v)) ∧ Below B w w' ∧ KpG sv w w' D Wt ∧ Loc sv (.slice ad (n + (lineL s true v).length) cap) w ∧
    w'.ownsRow B 28 5 (.slice ad2 (k + 1) cap2) (k + 1) (tk ++ [.slice none 0 0, .int .i64 0, .pointer (some ⟨Wt, 0, none⟩), .slice none 0 0, .int .i64 0])

set_option maxRecDepth 100000 in
set_option maxHeartbeats 2000000 in
theorem park_yesG (B D Wt T n : Nat) (sv : Value) (xs : List Value) (s : ByteArray) (v z : Int) (cs ws ts : List Value) (w : World)
    (hD : Blk w D 69 cs) (c84 : cs[1084]? = some sv) (c87 : cs[1087]? = some (.bool false)) (hW : Blk w Wt 84 ws) (q0 : ws[0]? = some (.pointer (some ⟨T, 0, none⟩))) (q3 : ws[3]? = some (.int .i64 v)) (q6 : ws[6]? = some (.int .i64 z))
    (hT : Blk w T 78 ts) (t0 : ts[0]? = some (.string s)) (hown : w.ownsRow B 5 1 sv n xs) (hBD : B ≤ D) (hBW : B ≤ Wt) (hDW : D ≠ Wt) (hn : n ≤ 1000000) (hs : s.size ≤ 1024) (h0 : -9223372036854775808 ≤ v) (h1 : v ≤ 9223372036854775807)
    (htab : Lib.TabBelow Ybad.prog B w Ybad.tabN .u64 Lib.pow10Tab) (wk : Value) (k : Nat) (tk : List Value) (c83 : cs[1083]? = some wk) (hwk : w.ownsRow B 28 5 wk k tk) (hk : k ≤ 10000) :
    Calls Ybad.prog 9 #[.pointer (some ⟨D, 0, none⟩), .pointer (some ⟨Wt, 0, none⟩), .int .i64 2] w fun e w' => e = .returned (.tuple #[]) ∧ PlG B D Wt n sv xs s v cs ws w k tk w' := by
  obtain ⟨i0, hi, hz0, hz1, hz2⟩ := info_parts info28
  have d84 := hD.cell 1084 c84
  have d87 := hD.cell 1087 c87
  have e0 := hW.cell 0 q0
  have e3 := hW.cell 3 q3
  have e6 := hW.cell 6 q6
  have f6 := hW.free 6
  have tt := hT.cell 0 t0
  go_enter Ybad.func9, Ybad.ntmps9
  go_upto_region 5 with fail
  have hcall : Hid (∀ W, Sm W (w.setCell ⟨Wt, 6, none⟩ (.int .i64 2)) → Calls Ybad.prog 13 #[sv, .string s, .int .i64 2, .int .i64 v] W fun e w' => AwG B D Wt n sv cs (ws.set 6 (.int .i64 2)) xs (lineL s true v) w e w') :=
    fun W hSm => aw_anyG B D Wt n sv xs s true v (.int .i64 2) cs ws w hD hW hown hBW hDW hn hs h0 h1 htab W hSm
  go_cut [4] (fun _ wc => PkG B D Wt n sv cs (ws.set 6 (.int .i64 2)) xs (lineL s true v) w wc)
  case first =>
    go_region_with (go_at_call 13; refine (hcall.out _ ?_).mono ?_; exact ⟨rfl, rfl, rfl, rfl⟩; rintro e w2 ⟨ad, cap, rfl, hD2, hW2, hO2, hb2, hk2, hr2, hl2⟩; have x84 := hD2.cell 1084 c84; have y84 := hD2.free 1084)
    all_goals (go_wp2_with fail; go_meet; exact aw_pkG hBD hDW ‹_› ‹_› ‹_› ‹_› ‹_› ‹_› ‹_›)
  case rest =>
    obtain ⟨ad, cap, hD2, hW2, hO2, hb2, hk2, hr2, hl2⟩ := hcut
    have hwk2 := hr2 _ _ _ _ hwk
    clear hcall d84 d87 e0 e3 e6 f6 tt
    have y83 := hD2.cell 1083 (v := wk) (by rw [List.getElem?_set, if_neg (by decide)]; exact c83)
    have hBw : B ≤ wc.heap.size := by have := hD2.lt; omega
    go_wp2_with (at_builtin; refine wpList_append_own _ rfl _ _ 24 rfl B 28 i0 (.agg #[.slice none 0 0, .int .i64 0, .pointer none, .slice none 0 0, .int .i64 0]) 5 72 Ybad.underlying24 hi hz0 hz1 hz2 rfl (by decide) _ _ _ rfl (hwk2.alloc _) ⟨wc.heap.size, 0, none⟩ 1 1 [.slice none 0 0, .int .i64 0, .pointer (some ⟨Wt, 0, none⟩), .slice none 0 0, .int .i64 0] rfl rfl ?c1 ?c2 ?c3 ?c4 ?c5 ?_)
    case c1 => exact new_cells wc 28 _
    case c2 => intro u hu; simp at hu; rcases hu with rfl | rfl | rfl | rfl | rfl <;> rfl
    case c3 => unfold maxLen; omega
    case c4 => omega
    case c5 => simp; omega
    intro v' w3 hO3 hg3 _
    have hne : wk.ownBlock ≠ some D := own_ne5 hwk2 hD2 (by decide)
    have hneW : wk.ownBlock ≠ some Wt := own_ne5 hwk2 hW2 (by decide)
    have hD3 := (hD2.alloc (.cells #[.slice none 0 0, .int .i64 0, .pointer (some ⟨Wt, 0, none⟩), .slice none 0 0, .int .i64 0] 28)).grown hg3 hne
    have hW3 := (hW2.alloc (.cells #[.slice none 0 0, .int .i64 0, .pointer (some ⟨Wt, 0, none⟩), .slice none 0 0, .int .i64 0] 28)).grown hg3 hneW
    have hb3 : Below B w w3 := (hb2.alloc hBw _).grown hg3 (by simp; omega) (fun b hb => (hwk2.lt b hb).1)
    have hO5 := own_grown hO2 hwk2 hg3 (by decide)
    have hk3 : KpG sv w w3 D Wt := fun b t cs' hB h5 h28 hbD hbW => ((hk2 b t cs' hB h5 h28 hbD hbW).alloc _).grown hg3 (own_ne5 hwk2 (hk2 b t cs' hB h5 h28 hbD hbW) h28.symm)
    obtain ⟨ad2, cap2, rfl⟩ := own_shape5 hO3
    have z83 := hD3.cell 1083 (v := wk) (by rw [List.getElem?_set, if_neg (by decide)]; exact c83)
    have zf := hD3.free 1083
    clear hg3 hD2 hW2 hO2 hb2 hk2 hr2 hwk2 hne hneW y83
    go_wp2
    go_end0
    exact ⟨rfl, ad, cap, ad2, cap2, hD3.set 1083 _, hW3.other (by simpa using hDW.symm) _, own_set hO5 hD3 (by decide) _ _, hb3.setCell hBD _, fun b t cs' hB h5 h28 hbD hbW => (hk3 b t cs' hB h5 h28 hbD hbW).other (by simpa using hbD) _, hl2, own_set hO3 hD3 (by decide) _ _⟩
end Go.Proofs.YbulkcvviDoor

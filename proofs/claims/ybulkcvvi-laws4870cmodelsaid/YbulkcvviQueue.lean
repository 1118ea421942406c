/- 'held' and 'queued'. -/
import Derived.Test.YbulkcvviBase
import Derived.Deep.QuietTactic
import Derived.BigQuiet
namespace Go.Proofs.Ybulkcvvi
open Go.RowKit

set_option maxHeartbeats 400000 in
theorem held_any (X : Nat) (tk t : Int) (w : World) (hX : X < w.heap.size) (hc : w.cell? ⟨X, 17, none⟩ = some (.int .i64 t)) :
    Calls Yba.prog 5 #[.agg #[.pointer (some ⟨X, 0, none⟩), .int .i64 tk]] w fun e w' => e = .returned (.bool (t == tk)) ∧ Below w.heap.size w w' := by
  go_enter Yba.func5, Yba.ntmps5
  go_wp2_with fail
  go_quiet (fail)
  go_wp2
  go_ret
  exact ⟨by simp, below_drewN ((Below.refl _ _).alloc (Nat.le_refl _) _) _⟩

/-- What 'queued' reads. -/
structure QF (w : World) (T LB PB p : Nat) (ex : Nat → Bool) (PL : List (Nat × Bool)) : Prop where
  lock : w.cell? ⟨LB, 2, none⟩ = some (.slice (some ⟨PB, 0, none⟩) p p)
  lLB : LB < w.heap.size
  lPB : PB < w.heap.size
  len : PL.length = p
  pt : ∀ j k s, PL[j]? = some (k, s) → w.cell? ⟨PB, j * 2, none⟩ = some (ptr T k) ∧ w.cell? ⟨PB, j * 2 + 1, none⟩ = some (.int .i64 (if s then -((k : Int) + 1) else (k : Int) + 1)) ∧ T + k < w.heap.size ∧
    w.cell? ⟨T + k, 16, none⟩ = some (.int .i64 (if ex k then 1 else 0)) ∧ w.cell? ⟨T + k, 17, none⟩ = some (.int .i64 ((k : Int) + 1))

theorem QF.later {w w' : World} {T LB PB p : Nat} {ex : Nat → Bool} {PL : List (Nat × Bool)} (h : QF w T LB PB p ex PL) (hb : Below w.heap.size w w') : QF w' T LB PB p ex PL := by
  have hs := hb.size
  have hc : ∀ b o, b < w.heap.size → w'.cell? ⟨b, o, none⟩ = w.cell? ⟨b, o, none⟩ := fun b o hb' => hb.cell (p := ⟨b, o, none⟩) hb'
  refine ⟨by rw [hc _ _ h.lLB]; exact h.lock, by have := h.lLB; omega, by have := h.lPB; omega, h.len, fun j k s hj => ?_⟩
  obtain ⟨h1, h2, h3, h4, h5⟩ := h.pt j k s hj
  exact ⟨by rw [hc _ _ h.lPB]; exact h1, by rw [hc _ _ h.lPB]; exact h2, by omega, by rw [hc _ _ h3]; exact h4, by rw [hc _ _ h3]; exact h5⟩

theorem own_shape {w : World} {base e n : Nat} {v : Value} {xs : List Value} (h : w.ownsRow base e 1 v n xs) : ∃ ad cap, v = .slice ad n cap := by
  obtain ⟨_, ⟨rfl, rfl⟩ | ⟨g, cap, cur, rfl, _⟩⟩ := h
  · exact ⟨_, _, rfl⟩
  · exact ⟨_, _, rfl⟩
theorem own_later {w w1 : World} {B0 e k : Nat} {v : Value} {bs : List Value} (h : w.ownsRow B0 e 1 v k bs) (hb : Below w.heap.size w w1) : w1.ownsRow B0 e 1 v k bs := by
  obtain ⟨hl, h | ⟨g, c, cur, he, hg, hh, hr⟩⟩ := h
  · exact ⟨hl, .inl h⟩
  · exact ⟨hl, .inr ⟨g, c, cur, he, hg, by rw [hb.block g (lt_of_block hh)]; exact hh, hr⟩⟩

theorem info29 : (Yba.prog.info? 29).map (fun i => (i.zero, i.size, i.bytes)) = some (some (.pointer none), 1, 8) := by kernel_rfl

theorem wl_drop {all : Bool} {ex : Nat → Bool} {PL : List (Nat × Bool)} {j k : Nat} {s : Bool} (h : PL[j]? = some (k, s)) :
    wl all ex (PL.drop j) = if s then wl all ex (PL.drop (j + 1)) else k :: (if !all && ex k then [] else wl all ex (PL.drop (j + 1))) := by
  have hj : j < PL.length := (List.getElem?_eq_some_iff.1 h).1
  have he : PL[j] = (k, s) := (List.getElem?_eq_some_iff.1 h).2
  rw [List.drop_eq_getElem_cons hj, he]
  rfl

set_option maxHeartbeats 1000000 in
theorem queued_any (T LB PB p : Nat) (ex : Nat → Bool) (PL : List (Nat × Bool)) (all : Bool) (w : World) (hq : QF w T LB PB p ex PL) (hp : p ≤ 1024) :
    Calls Yba.prog 4 #[.pointer (some ⟨LB, 0, none⟩), .bool all] w fun e w' => ∃ v, e = .returned v ∧ w'.ownsRow w.heap.size 29 1 v (wl all ex PL).length ((wl all ex PL).map (ptr T)) ∧ Below w.heap.size w w' := by
  have g2 := hq.lock
  obtain ⟨i0, hi, hz0, hz1, hz2⟩ := info_parts info29
  go_enter Yba.func4, Yba.ntmps4
  go_wp2_with fail
  go_loopw [5, 14] (fun v i wr => ∃ (j : Nat) (W : List Nat), j ≤ p ∧ W.length ≤ j ∧ i = .int .i64 j ∧ wr.ownsRow w.heap.size 29 1 v W.length (W.map (ptr T)) ∧ Below w.heap.size w wr ∧ Hid (W ++ wl all ex (PL.drop j) = wl all ex PL)) (fun _ i _ => p - (intOf i).toNat)
  case atStart => exact ⟨0, [], Nat.zero_le _, Nat.le_refl _, rfl, World.ownsRow_nil _ _ _ _, Below.refl _ _, by simp [Hid]⟩
  case round =>
    obtain ⟨j, W, hj, hW, rfl, hown, hb, HW⟩ := hrel
    clear g2
    by_cases hlt : j < p
    · have hqr := hq.later hb
      obtain ⟨⟨k, s⟩, hks⟩ : ∃ x, PL[j]? = some x := ⟨_, List.getElem?_eq_getElem (by rw [hq.len]; omega)⟩
      obtain ⟨c0, c1, cT, c16, c17⟩ := hqr.pt j k s hks
      have hd := wl_drop (all := all) (ex := ex) hks
      have HD : Hid (wl all ex (PL.drop j) = _) := hd
      have HK : Hid (PL[j]? = some (k, s)) := hks
      have lP := hqr.lPB
      clear hd hks hqr
      unfold ptr at c0
      have hsz : w.heap.size ≤ wr.heap.size := hb.size
      cases s with
      | true =>
        have HD2 : Hid (W ++ wl all ex (PL.drop (j + 1)) = wl all ex PL) := by
          have h1 := HW.out; rw [HD.out] at h1; simpa [Hid] using h1
        clear HD HW HK
        simp only [if_true] at c1
        have hne : ((k : Int) + 1 == -((k : Int) + 1)) = false := by simp; omega
        go_wp2_with fail
        refine (held_any (T + k) _ ((k : Int) + 1) _ ?hX ?hc).mono ?_
        case hX => simp; omega
        case hc => exact cell_later ((Below.refl _ _).alloc (Nat.le_refl _) _) c17
        rintro e w1 ⟨rfl, hb1⟩
        have hbr : Below wr.heap.size wr w1 := ((Below.refl _ _).alloc (Nat.le_refl _) _).trans (hb1.mono (by simp))
        have hown1 := own_later hown hbr
        have hbw := hb.trans (hbr.mono hsz)
        clear hb1 hbr hown hb c0 c1 c16 c17
        go_wp2
        go_roundw
        case rel => exact ⟨j + 1, W, by omega, by omega, by go_num, hown1, hbw, HD2⟩
        case measure => simp [intOf]; omega
      | false =>
        simp at c1
        have hne : ((k : Int) + 1 == (k : Int) + 1) = true := by simp
        have HD1 : Hid (W ++ k :: (if !all && ex k then [] else wl all ex (PL.drop (j + 1))) = wl all ex PL) := by
          have h1 := HW.out; rw [HD.out] at h1; simpa [Hid] using h1
        clear HD HW
        go_wp2_with fail
        refine (held_any (T + k) _ ((k : Int) + 1) _ ?hX ?hc).mono ?_
        case hX => simp; omega
        case hc => exact cell_later ((Below.refl _ _).alloc (Nat.le_refl _) _) c17
        rintro e w1 ⟨rfl, hb1⟩
        have hbr : Below wr.heap.size wr w1 := ((Below.refl _ _).alloc (Nat.le_refl _) _).trans (hb1.mono (by simp))
        have hpn : Blk w1 wr.heap.size 47 [.pointer (some ⟨T + k, 0, none⟩), .int .i64 ((k : Int) + 1)] := (Blk.new wr 47 #[.pointer (some ⟨T + k, 0, none⟩), .int .i64 ((k : Int) + 1)]).below hb1 (by simp)
        have hown1 := own_later hown hbr
        have hbw := hb.trans (hbr.mono hsz)
        have d16 : w1.cell? ⟨T + k, 16, none⟩ = some (.int .i64 (if ex k then 1 else 0)) := cell_later hbr c16
        have p0 := hpn.cell 0 rfl
        have hs1 : wr.heap.size < w1.heap.size := hpn.lt
        have hl1 := hbw.size
        clear hb1 hown hb c0 c1 c16 c17
        go_wp2_with (at_builtin; refine wpList_append_own _ rfl _ _ 24 rfl w.heap.size 29 i0 (.pointer none) 1 8 Yba.underlying24 hi hz0 hz1 hz2 rfl (by decide) _ _ _ rfl (hown1.alloc _) ⟨w1.heap.size, 0, none⟩ 1 1 [.pointer (some ⟨T + k, 0, none⟩)] rfl rfl (cell_one_new _ _ _) ?c2 ?c3 ?c4 ?c5 ?_)
        case c2 => intro u hu; simp at hu; subst hu; rfl
        case c3 => unfold maxLen; omega
        case c4 => omega
        case c5 => simp; omega
        intro v' w2 hown2 hgrow2 _
        have hbw2 : Below w.heap.size w w2 := (hbw.alloc hl1 _).grown hgrow2 (by simp; omega) (fun b hb => (hown1.lt b hb).1)
        have hn2 : u5.ownBlock ≠ some wr.heap.size := by
          intro e
          obtain ⟨_, ⟨rfl, _⟩ | ⟨g, c, cur, rfl, _, hg, _⟩⟩ := hown1
          · simp [Value.ownBlock] at e
          · simp [Value.ownBlock] at e; subst e; unfold Blk at hpn; rw [hpn] at hg; simp at hg
        have hpn2 := (hpn.alloc (.cells #[.pointer (some ⟨T + k, 0, none⟩)] 29)).grown hgrow2 hn2
        have q0 := hpn2.cell 0 rfl
        have q16 := ((hq.later hbw2).pt j k false HK.out).2.2.2.1
        have hown3 : w2.ownsRow w.heap.size 29 1 v' (W ++ [k]).length ((W ++ [k]).map (ptr T)) := by simpa [ptr] using hown2
        clear hown2 hgrow2 hpn hpn2 hn2 hown1 hbw hbr p0 d16
        cases all with
        | true =>
          go_wp2
          go_roundw
          case rel => exact ⟨j + 1, W ++ [k], by omega, by simp; omega, by go_num, hown3, hbw2, by simpa [Hid] using HD1.out⟩
          case measure => simp [intOf]; omega
        | false =>
          cases hex : ex k with
          | false =>
            rw [hex] at q16
            simp at q16
            have HX : Hid (ex k = false) := hex
            clear hex
            go_wp2
            go_roundw
            case rel => exact ⟨j + 1, W ++ [k], by omega, by simp; omega, by go_num, hown3, hbw2, by have := HD1.out; rw [HX.out] at this; simpa [Hid] using this⟩
            case measure => simp [intOf]; omega
          | true =>
            rw [hex] at q16
            simp at q16
            have HX : Hid (ex k = true) := hex
            clear hex
            have HF : Hid (W ++ [k] = wl false ex PL) := by have := HD1.out; rw [HX.out] at this; simpa [Hid] using this
            clear HD1 HX
            obtain ⟨ad, cap, rfl⟩ := own_shape hown3
            go_wp2
            go_ret
            exact ⟨_, rfl, by rw [← HF.out]; exact hown3, hbw2⟩
    · have e1 : j = p := by omega
      obtain ⟨ad, cap, rfl⟩ := own_shape hown
      have HF : Hid (W = wl all ex PL) := by
        have h1 := HW.out
        rw [e1, List.drop_eq_nil_of_le (by rw [hq.len]; omega)] at h1
        simpa [wl, Hid] using h1
      clear HW e1
      go_wp2
      go_ret
      exact ⟨_, rfl, by rw [← HF.out]; exact hown, hb⟩
end Go.Proofs.Ybulkcvvi

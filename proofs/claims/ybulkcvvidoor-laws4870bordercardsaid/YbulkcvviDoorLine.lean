/- 'zzs4870bline', 'appendWait': the wait line. -/
import Derived.Test.YbulkcvviDoorOwn
namespace Go.Proofs.YbulkcvviDoor
open Go.RowKit

def waitsS : List UInt8 := [32, 119, 97, 105, 116, 115, 58, 32]
def lockS : List UInt8 := [108, 111, 99, 107, 32, 111, 110]
def noS : List UInt8 := [110, 111, 32, 119, 97, 105, 116]
/-- The line's bytes. -/
def lineL (name : ByteArray) (lk : Bool) (v : Int) : List UInt8 := name.data.toList ++ waitsS ++ (if lk then lockS else noS) ++ [32, 120] ++ Lib.itoa v ++ [10]
theorem bytes_app (a b : List UInt8) : Lib.byteCells (a ++ b) = Lib.byteCells a ++ Lib.byteCells b := by simp [Lib.byteCells]
theorem bytes_len (a : List UInt8) : (Lib.byteCells a).length = a.length := by simp [Lib.byteCells]

/-- '[]byte(s)'. -/
theorem bytes_of (w : World) (s : ByteArray) (hs : s.size ≤ 1024) : ∃ v' w', (convert 9 22 (.string s)).run Ybad.prog w = .ok v' w' ∧ OwnG w' w.heap.size v' s.size (Lib.byteCells s.data.toList) ∧ Below w.heap.size w w' := by
  have hr := run_bytes_of_string (P := Ybad.prog) w 9 22 5 s Ybad.underlying9 Ybad.underlying22 Ybad.underlying5
  have hge := grownCap_ge w s.size 0 5
  have hcm : grownCap w s.size 0 5 ≤ maxLen := grownCap_le_maxLen w s.size 0 5 (by unfold maxLen; omega)
  have hsz : (bytesRow s (grownCap w s.size 0 5)).size = grownCap w s.size 0 5 := by
    have : s.data.size = s.size := rfl
    simp [bytesRow, this]; omega
  refine ⟨_, _, hr, ⟨by simp [Lib.byteCells], w.heap.size, _, _, _, rfl, Nat.le_refl _, heap_alloc_new w.drew _, .inr (by simp), hge, hcm, hsz, ?_⟩, (Below.refl _ _).drew.alloc (by simp) _⟩
  simp only [bytesRow, Array.toList_append, Array.toList_map]
  exact List.take_left' (by simp)

theorem OwnG.alloc {w : World} {B n : Nat} {v : Value} {xs : List Value} (h : OwnG w B v n xs) (o : Obj) : OwnG (w.alloc o) B v n xs := h.later ((Below.refl _ _).alloc (Nat.le_refl _) _)
theorem OwnG.shape {w : World} {B n : Nat} {v : Value} {xs : List Value} (h : OwnG w B v n xs) : ∃ g cap, v = .slice (some ⟨g, 0, none⟩) n cap := by
  obtain ⟨_, g, cap, cur, fz, rfl, _⟩ := h
  exact ⟨g, cap, rfl⟩
/-- The world behind an append onto a row of the call's own. -/
theorem OwnG.next {w0 w w' : World} {B n : Nat} {v : Value} {xs : List Value} (h : OwnG w B v n xs) (hb : Below B w0 w) (hg : w.grownBy w' v.ownBlock) : Below B w0 w' ∧ B ≤ w'.heap.size := by
  obtain ⟨g, cap, rfl⟩ := h.shape
  have hl := h.lt g rfl
  refine ⟨hb.grown hg (by omega) (fun k hk => ?_), by have := hg.size; omega⟩
  exact (h.lt k hk).1

theorem addr_of {w : World} {B n cap : Nat} {ad : Addr} {xs : List Value} (h : w.ownsRow B 5 1 (.slice (some ad) n cap) n xs) (_hn : 0 < n) : ∃ g, ad = ⟨g, 0, none⟩ := by
  obtain ⟨_, ⟨he, _⟩ | ⟨g, c, cur, he, _⟩⟩ := h
  · simp at he
  · simp at he; exact ⟨g, he.1⟩
theorem Lib.itoa_pos_len (v : Int) : 1 ≤ (Go.Lib.itoa v).length := by
  unfold Go.Lib.itoa; split
  · simp
  · exact dec_pos _

set_option maxRecDepth 100000 in
set_option maxHeartbeats 1000000 in
theorem line_any (s : ByteArray) (lk : Bool) (v : Int) (w : World) (hs : s.size ≤ 1024) (h0 : -9223372036854775808 ≤ v) (h1 : v ≤ 9223372036854775807) :
    Calls Ybad.prog 6 #[.string s, .bool lk, .int .i64 v] w fun e w' => ∃ g cap, e = .returned (.slice (some ⟨g, 0, none⟩) (lineL s lk v).length cap) ∧ OwnG w' w.heap.size (.slice (some ⟨g, 0, none⟩) (lineL s lk v).length cap) (lineL s lk v).length (Lib.byteCells (lineL s lk v)) ∧ Below w.heap.size w w' := by
  obtain ⟨v0, w0, hr0, hO0, hb0⟩ := bytes_of w s hs
  have hlen := Lib.itoa_length_le v h0 h1
  have HI : Hid ((Lib.itoa v).length ≤ 21) := hlen
  clear hlen
  have hz0 := hb0.size
  obtain ⟨g0, cap0, rfl⟩ := hO0.shape
  cases lk with
  | true =>
    go_enter Ybad.func6, Ybad.ntmps6
    go_wp2_with (at_builtin; refine wpList_str_g rfl (.tmp 10) _ rfl w.heap.size _ _ _ rfl hO0 _ rfl ?a1 ?b1 hz0 ?_)
    case a1 => show s.size + 8 ≤ maxLen; unfold maxLen; omega
    case b1 => show s.size + 8 ≤ 140737488355328; omega
    intro v1 w1 hO1 hg1
    obtain ⟨hb1, hz1⟩ := hO0.next hb0 hg1
    obtain ⟨g1, cap1, rfl⟩ := hO1.shape
    clear hg1
    go_wp2_with (at_builtin; refine wpList_str_g rfl (.tmp 13) _ rfl w.heap.size _ _ _ rfl hO1 _ rfl ?a2 ?b2 hz1 ?_)
    case a2 => show s.size + 8 + 7 ≤ maxLen; unfold maxLen; omega
    case b2 => show s.size + 8 + 7 ≤ 140737488355328; omega
    intro v2 w2 hO2 hg2
    obtain ⟨hb2, hz2⟩ := hO1.next hb1 hg2
    obtain ⟨g2, cap2, rfl⟩ := hO2.shape
    clear hg2
    go_wp2_with (at_builtin; refine wpList_str_g rfl (.tmp 17) _ rfl w.heap.size _ _ _ rfl hO2 _ rfl ?a3 ?b3 hz2 ?_)
    case a3 => show s.size + 8 + 7 + 2 ≤ maxLen; unfold maxLen; omega
    case b3 => show s.size + 8 + 7 + 2 ≤ 140737488355328; omega
    intro v3 w3 hO3 hg3
    obtain ⟨hb3, hz3⟩ := hO2.next hb2 hg3
    obtain ⟨g3, cap3, rfl⟩ := hO3.shape
    clear hg3
    go_wp2_with (go_at_call 8; refine (itoa_any v _ h0 h1).mono ?_)
    rintro e w4 ⟨ad, cap4, rfl, hown4, hb4⟩
    have hO3' := hO3.later hb4
    have hb4' := hb3.trans (hb4.mono hz3)
    have hz4 := hb4'.size
    obtain ⟨ga, rfl⟩ := addr_of hown4 (by have := Lib.itoa_pos_len v; omega)
    have hce := hown4.cells (g := ga) rfl
    have HCE : Hid _ := hce
    clear hce
    go_wp2_with (at_builtin; refine wpList_sl_g rfl (.tmp 19) _ rfl w.heap.size _ _ _ rfl hO3' _ _ _ _ rfl ?a5 HCE.out (bytes_one _) ?b5 ?c5 hz4 ?_)
    case a5 => exact bytes_len _
    case b5 => show s.size + 8 + 7 + 2 + _ ≤ maxLen; unfold maxLen; have := HI.out; omega
    case c5 => show s.size + 8 + 7 + 2 + _ ≤ 140737488355328; have := HI.out; omega
    intro v5 w5 hO5 hg5
    obtain ⟨hb5, hz5⟩ := hO3'.next hb4' hg5
    obtain ⟨g5, cap5, rfl⟩ := hO5.shape
    clear hg5 HCE hown4 hb4
    go_wp2_with (at_builtin; refine wpList_sl_g rfl (.tmp 23) _ rfl w.heap.size _ _ _ rfl (hO5.alloc _) ⟨w5.heap.size, 0, none⟩ 1 1 [.int .u8 10] rfl rfl (cell_one_new _ _ _) ?a6 ?b6 ?c6 ?d6 ?_)
    case a6 => intro u hu; simp at hu; subst hu; rfl
    case b6 => show s.size + 8 + 7 + 2 + _ + 1 ≤ maxLen; unfold maxLen; have := HI.out; omega
    case c6 => show s.size + 8 + 7 + 2 + _ + 1 ≤ 140737488355328; have := HI.out; omega
    case d6 => simp; omega
    intro v6 w6 hO6 hg6
    obtain ⟨hb6, hz6⟩ := (hO5.alloc _).next (hb5.alloc hz5 _) hg6
    have hO7 : OwnG w6 w.heap.size v6 (lineL s true v).length (Lib.byteCells (lineL s true v)) := by
      have e1 : (lineL s true v).length = s.size + 8 + 7 + 2 + (Lib.itoa v).length + 1 := by simp [lineL, waitsS, lockS]; omega
      rw [e1]; simpa [lineL, Lib.byteCells, Lib.strCells, waitsS, lockS] using hO6
    obtain ⟨g6, cap6, rfl⟩ := hO7.shape
    clear hg6 hO6 hO5
    go_wp2
    go_ret
    exact ⟨g6, cap6, by simp, hO7, hb6⟩
  | false =>
    go_enter Ybad.func6, Ybad.ntmps6
    go_wp2_with (at_builtin; refine wpList_str_g rfl (.tmp 10) _ rfl w.heap.size _ _ _ rfl hO0 _ rfl ?a1 ?b1 hz0 ?_)
    case a1 => show s.size + 8 ≤ maxLen; unfold maxLen; omega
    case b1 => show s.size + 8 ≤ 140737488355328; omega
    intro v1 w1 hO1 hg1
    obtain ⟨hb1, hz1⟩ := hO0.next hb0 hg1
    obtain ⟨g1, cap1, rfl⟩ := hO1.shape
    clear hg1
    go_wp2_with (at_builtin; refine wpList_str_g rfl (.tmp 15) _ rfl w.heap.size _ _ _ rfl hO1 _ rfl ?a2 ?b2 hz1 ?_)
    case a2 => show s.size + 8 + 7 ≤ maxLen; unfold maxLen; omega
    case b2 => show s.size + 8 + 7 ≤ 140737488355328; omega
    intro v2 w2 hO2 hg2
    obtain ⟨hb2, hz2⟩ := hO1.next hb1 hg2
    obtain ⟨g2, cap2, rfl⟩ := hO2.shape
    clear hg2
    go_wp2_with (at_builtin; refine wpList_str_g rfl (.tmp 17) _ rfl w.heap.size _ _ _ rfl hO2 _ rfl ?a3 ?b3 hz2 ?_)
    case a3 => show s.size + 8 + 7 + 2 ≤ maxLen; unfold maxLen; omega
    case b3 => show s.size + 8 + 7 + 2 ≤ 140737488355328; omega
    intro v3 w3 hO3 hg3
    obtain ⟨hb3, hz3⟩ := hO2.next hb2 hg3
    obtain ⟨g3, cap3, rfl⟩ := hO3.shape
    clear hg3
    go_wp2_with (go_at_call 8; refine (itoa_any v _ h0 h1).mono ?_)
    rintro e w4 ⟨ad, cap4, rfl, hown4, hb4⟩
    have hO3' := hO3.later hb4
    have hb4' := hb3.trans (hb4.mono hz3)
    have hz4 := hb4'.size
    obtain ⟨ga, rfl⟩ := addr_of hown4 (by have := Lib.itoa_pos_len v; omega)
    have hce := hown4.cells (g := ga) rfl
    have HCE : Hid _ := hce
    clear hce
    go_wp2_with (at_builtin; refine wpList_sl_g rfl (.tmp 19) _ rfl w.heap.size _ _ _ rfl hO3' _ _ _ _ rfl ?a5 HCE.out (bytes_one _) ?b5 ?c5 hz4 ?_)
    case a5 => exact bytes_len _
    case b5 => show s.size + 8 + 7 + 2 + _ ≤ maxLen; unfold maxLen; have := HI.out; omega
    case c5 => show s.size + 8 + 7 + 2 + _ ≤ 140737488355328; have := HI.out; omega
    intro v5 w5 hO5 hg5
    obtain ⟨hb5, hz5⟩ := hO3'.next hb4' hg5
    obtain ⟨g5, cap5, rfl⟩ := hO5.shape
    clear hg5 HCE hown4 hb4
    go_wp2_with (at_builtin; refine wpList_sl_g rfl (.tmp 23) _ rfl w.heap.size _ _ _ rfl (hO5.alloc _) ⟨w5.heap.size, 0, none⟩ 1 1 [.int .u8 10] rfl rfl (cell_one_new _ _ _) ?a6 ?b6 ?c6 ?d6 ?_)
    case a6 => intro u hu; simp at hu; subst hu; rfl
    case b6 => show s.size + 8 + 7 + 2 + _ + 1 ≤ maxLen; unfold maxLen; have := HI.out; omega
    case c6 => show s.size + 8 + 7 + 2 + _ + 1 ≤ 140737488355328; have := HI.out; omega
    case d6 => simp; omega
    intro v6 w6 hO6 hg6
    obtain ⟨hb6, hz6⟩ := (hO5.alloc _).next (hb5.alloc hz5 _) hg6
    have hO7 : OwnG w6 w.heap.size v6 (lineL s false v).length (Lib.byteCells (lineL s false v)) := by
      have e1 : (lineL s false v).length = s.size + 8 + 7 + 2 + (Lib.itoa v).length + 1 := by simp [lineL, waitsS, noS]; omega
      rw [e1]; simpa [lineL, Lib.byteCells, Lib.strCells, waitsS, noS] using hO6
    obtain ⟨g6, cap6, rfl⟩ := hO7.shape
    clear hg6 hO6 hO5
    go_wp2
    go_ret
    exact ⟨g6, cap6, by simp, hO7, hb6⟩
end Go.Proofs.YbulkcvviDoor

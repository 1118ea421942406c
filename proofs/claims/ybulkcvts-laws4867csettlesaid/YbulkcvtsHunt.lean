/- The law's walk: the decoder hunts. -/
import Derived.Test.YbulkcvtsBuilt
import Derived.Deep.QuietTactic
import Derived.BigQuiet
namespace Go.Proofs.Ybulkcvts
open Go.RowKit
set_option linter.unusedVariables false

set_option maxRecDepth 100000 in
set_option maxHeartbeats 1000000 in
theorem hunt_a (a0 : Option Addr) (len0 cap0 A1 A2 A3 A7 m n o a : Nat) (xs : List Int) (a4 a5 a6 : Bool) (a8 : Int) (w : World) (hl : len0 ≤ 1024) (hkm : ¬ m < len0) (hkc : len0 ≤ cap0)
   (h1 : A1 < 256) (h2 : A2 < 256) (h3 : A3 < 256) (h7 : A7 < 65536)
   (hm : (A7 : Int) % 80 = m) (hn : (A2 : Int) % 8 = n) (ho : (A3 : Int) % 8 = o) (hm' : m < 80) (hn' : n < 8) (ho' : o < 8) (hA : bits .and .u8 (A1 : Int) ((2 ^ n - 1) % 256) = (a : Int)) (ha : a < 2 ^ n) (ha256 : a < 256)
   (hsrc : Src w a0 len0 cap0 xs) (h5 : a5 = true) (ho6 : ((o : Int) == 6) = false) :
    Calls Yba.prog 3 #[.slice a0 len0 cap0, .int .u8 A1, .int .u8 A2, .int .u8 A3, .bool a4, .bool a5, .bool a6, .int .u16 A7, .int .i64 a8] w fun e w' => e = .returned (.bool true) ∧ Below w.heap.size w w' := by
  obtain ⟨i0, hi, hz0, hz1, hz2⟩ := info_parts info5
  have hk80 : len0 < 80 := by omega
  have hq : ∀ (w : World) (a : Option Addr) (n c n' c' : Nat), (binOp .eql 22 (.slice a n c) (.slice none n' c')).run Yba.prog w = .ok (.bool a.isNone) w := fun w a n c n' c' => Lib.run_eql_slice_nil w _ _ a n c n' c' Yba.underlying22
  have hqn : ∀ (w : World) (a : Option Addr) (n c n' c' : Nat), (binOp .neq 22 (.slice a n c) (.slice none n' c')).run Yba.prog w = .ok (.bool !a.isNone) w := fun w a n c n' c' => run_neq_slice_nil_any w _ _ a n c n' c' Yba.underlying22
  obtain ⟨cur, hcur⟩ : ∃ cur : List Value, cur = (madeCells #[Value.int .u8 0] len0).toList := ⟨_, rfl⟩
  have hcurl : cur.length = len0 := by rw [hcur]; simp [madeCells]
  have HC : Hid (cur = _) := hcur
  have HCL : Hid (cur.length = len0) := hcurl
  clear hcur hcurl
  have HX : Hid (xs.length = len0) := hsrc.len
  subst h5
  go_enter Yba.func3, Yba.ntmps3
  go_wp2_with (at_make; refine wpList_make_full _ rfl _ _ 22 rfl w.heap.size 5 i0 (.int .u8 0) 1 Yba.underlying22 hi hz0 hz1 .i64 .i64 _ _ len0 rfl rfl (by omega) (by omega) ?b2 ?b3 (Nat.le_refl _) ?_)
  case b2 => rw [hz2]; omega
  case b3 => unfold maxLen; omega
  intro w1 hown1 hgrow1
  have hb1 : Below w.heap.size w w1 := (Below.refl _ _).grown hgrow1 (Nat.le_refl _) (fun _ h => by cases h)
  have hg1 : w1.heap[w.heap.size]? = some (.cells cur.toArray 5 (0, 0)) := by rw [HC.out]; exact made_block hown1
  clear hown1 hgrow1
  go_wp2_with (refine wpList_copy_splice rfl (.tmp 71) (.tmp 72) 22 22 rfl 5 Yba.underlying22 (by rw [hi]; simp [hz1]) _ _ _ _ _ _ rfl rfl w.heap.size 0 cur 5 hg1 (xs.map (Value.int .u8)) ?d1 ?d2 ?d3 (ints_oneCell _ _) w.heap.size w hb1 (Nat.le_refl _) ?_)
  case d1 => rw [List.length_map, HX.out]; simp only [Nat.min_def]; split <;> omega
  case d2 => intro hp; obtain ⟨ad, e1, e2⟩ := hsrc.cells _ hb1 (by simpa [HX.out] using hp); exact ⟨ad, e1, fun j v hj => e2 j _ (by simp [hj])⟩
  case d3 => rw [List.length_map, HX.out, HCL.out]; omega
  intro w2 hg2 hb2
  clear hg1 hb1
  obtain ⟨hBk, hOw, hBe, hSz⟩ := built (m := m) (n := n) (a := a) (o := o) (z := a4) (h := true) (lg := a6) (dd := a8) hg2 hb2 HCL.out HX.out (by omega) (dec m o a4 true (.slice (some ⟨w.heap.size, 0, none⟩) len0 len0) a n a6 a8).toArray (by simp)
  go_wp2_with fail
  refine (take_hunt w.heap.size w2.heap.size m a n len0 len0 (some ⟨w.heap.size, 0, none⟩) a8 a4 a6 (xs.map (Value.int .u8)) _ o hBk hOw hSz ho' ho6).mono ?_
  clear hBk hOw
  rintro e w3 ⟨rfl, ad, cap, hB, hown, hb⟩
  have hb3 : Below w.heap.size w w3 := hBe.trans hb
  have hrd : ∀ q, Reads (w3.drewN q) (.slice a0 len0 cap0) xs := fun q => hsrc.read _ (below_drewN hb3 q)
  have hro : ∀ q, Reads (w3.drewN q) (.slice ad len0 cap) xs := fun q => reads_own (show (w3.drewN q).ownsRow _ _ _ _ _ _ from hown)
  clear hb hBe hg2 hb2 hsrc
  have g0 := hB.cell 0 rfl
  have g1 := hB.cell 1 rfl
  have g4 := hB.cell 4 rfl
  have g5 := hB.cell 5 rfl
  have g7 := hB.cell 7 rfl
  have g8 := hB.cell 8 rfl
  have g9 := hB.cell 9 rfl
  have g10 := hB.cell 10 rfl
  have g11 := hB.cell 11 rfl
  have g12 := hB.cell 12 rfl
  have g13 := hB.cell 13 rfl
  have g14 := hB.cell 14 rfl
  go_wp2_with fail
  go_quiet ((go_at_call 5; exact Calls.quiet_of_same (equal_same _ _ xs _ (hro _) (hrd _))))
  go_wp2
  go_ret
  exact ⟨by simp, below_drewN hb3 _⟩

set_option maxRecDepth 100000 in
set_option maxHeartbeats 1000000 in
theorem hunt7_a (a0 : Option Addr) (len0 cap0 A1 A2 A3 A7 m n o a : Nat) (xs : List Int) (a4 a5 a6 : Bool) (a8 : Int) (w : World) (hl : len0 ≤ 1024) (hkm : ¬ m < len0) (hkc : len0 ≤ cap0)
   (h1 : A1 < 256) (h2 : A2 < 256) (h3 : A3 < 256) (h7 : A7 < 65536)
   (hm : (A7 : Int) % 80 = m) (hn : (A2 : Int) % 8 = n) (ho : (A3 : Int) % 8 = o) (hm' : m < 80) (hn' : n < 8) (ho' : o < 8) (hA : bits .and .u8 (A1 : Int) ((2 ^ n - 1) % 256) = (a : Int)) (ha : a < 2 ^ n) (ha256 : a < 256)
   (hsrc : Src w a0 len0 cap0 xs) (h5 : a5 = false) (ho6 : ((o : Int) == 6) = false) (ho7 : ((o : Int) == 7) = true) :
    Calls Yba.prog 3 #[.slice a0 len0 cap0, .int .u8 A1, .int .u8 A2, .int .u8 A3, .bool a4, .bool a5, .bool a6, .int .u16 A7, .int .i64 a8] w fun e w' => e = .returned (.bool true) ∧ Below w.heap.size w w' := by
  obtain ⟨i0, hi, hz0, hz1, hz2⟩ := info_parts info5
  have hk80 : len0 < 80 := by omega
  have hq : ∀ (w : World) (a : Option Addr) (n c n' c' : Nat), (binOp .eql 22 (.slice a n c) (.slice none n' c')).run Yba.prog w = .ok (.bool a.isNone) w := fun w a n c n' c' => Lib.run_eql_slice_nil w _ _ a n c n' c' Yba.underlying22
  have hqn : ∀ (w : World) (a : Option Addr) (n c n' c' : Nat), (binOp .neq 22 (.slice a n c) (.slice none n' c')).run Yba.prog w = .ok (.bool !a.isNone) w := fun w a n c n' c' => run_neq_slice_nil_any w _ _ a n c n' c' Yba.underlying22
  obtain ⟨cur, hcur⟩ : ∃ cur : List Value, cur = (madeCells #[Value.int .u8 0] len0).toList := ⟨_, rfl⟩
  have hcurl : cur.length = len0 := by rw [hcur]; simp [madeCells]
  have HC : Hid (cur = _) := hcur
  have HCL : Hid (cur.length = len0) := hcurl
  clear hcur hcurl
  have HX : Hid (xs.length = len0) := hsrc.len
  subst h5
  go_enter Yba.func3, Yba.ntmps3
  go_wp2_with (at_make; refine wpList_make_full _ rfl _ _ 22 rfl w.heap.size 5 i0 (.int .u8 0) 1 Yba.underlying22 hi hz0 hz1 .i64 .i64 _ _ len0 rfl rfl (by omega) (by omega) ?b2 ?b3 (Nat.le_refl _) ?_)
  case b2 => rw [hz2]; omega
  case b3 => unfold maxLen; omega
  intro w1 hown1 hgrow1
  have hb1 : Below w.heap.size w w1 := (Below.refl _ _).grown hgrow1 (Nat.le_refl _) (fun _ h => by cases h)
  have hg1 : w1.heap[w.heap.size]? = some (.cells cur.toArray 5 (0, 0)) := by rw [HC.out]; exact made_block hown1
  clear hown1 hgrow1
  go_wp2_with (refine wpList_copy_splice rfl (.tmp 71) (.tmp 72) 22 22 rfl 5 Yba.underlying22 (by rw [hi]; simp [hz1]) _ _ _ _ _ _ rfl rfl w.heap.size 0 cur 5 hg1 (xs.map (Value.int .u8)) ?d1 ?d2 ?d3 (ints_oneCell _ _) w.heap.size w hb1 (Nat.le_refl _) ?_)
  case d1 => rw [List.length_map, HX.out]; simp only [Nat.min_def]; split <;> omega
  case d2 => intro hp; obtain ⟨ad, e1, e2⟩ := hsrc.cells _ hb1 (by simpa [HX.out] using hp); exact ⟨ad, e1, fun j v hj => e2 j _ (by simp [hj])⟩
  case d3 => rw [List.length_map, HX.out, HCL.out]; omega
  intro w2 hg2 hb2
  clear hg1 hb1
  obtain ⟨hBk, hOw, hBe, hSz⟩ := built (m := m) (n := n) (a := a) (o := o) (z := a4) (h := true) (lg := a6) (dd := a8) hg2 hb2 HCL.out HX.out (by omega) (dec m o a4 true (.slice (some ⟨w.heap.size, 0, none⟩) len0 len0) a n a6 a8).toArray (by simp)
  go_wp2_with fail
  refine (take_hunt w.heap.size w2.heap.size m a n len0 len0 (some ⟨w.heap.size, 0, none⟩) a8 a4 a6 (xs.map (Value.int .u8)) _ o hBk hOw hSz ho' ho6).mono ?_
  clear hBk hOw
  rintro e w3 ⟨rfl, ad, cap, hB, hown, hb⟩
  have hb3 : Below w.heap.size w w3 := hBe.trans hb
  have hrd : ∀ q, Reads (w3.drewN q) (.slice a0 len0 cap0) xs := fun q => hsrc.read _ (below_drewN hb3 q)
  have hro : ∀ q, Reads (w3.drewN q) (.slice ad len0 cap) xs := fun q => reads_own (show (w3.drewN q).ownsRow _ _ _ _ _ _ from hown)
  clear hb hBe hg2 hb2 hsrc
  have g0 := hB.cell 0 rfl
  have g1 := hB.cell 1 rfl
  have g4 := hB.cell 4 rfl
  have g5 := hB.cell 5 rfl
  have g7 := hB.cell 7 rfl
  have g8 := hB.cell 8 rfl
  have g9 := hB.cell 9 rfl
  have g10 := hB.cell 10 rfl
  have g11 := hB.cell 11 rfl
  have g12 := hB.cell 12 rfl
  have g13 := hB.cell 13 rfl
  have g14 := hB.cell 14 rfl
  go_wp2_with fail
  go_quiet ((go_at_call 5; exact Calls.quiet_of_same (equal_same _ _ xs _ (hro _) (hrd _))))
  go_wp2
  go_ret
  exact ⟨by simp, below_drewN hb3 _⟩

set_option maxRecDepth 100000 in
set_option maxHeartbeats 1000000 in
theorem hunt_b (a0 : Option Addr) (len0 cap0 A1 A2 A3 A7 m n o a : Nat) (xs : List Int) (a4 a5 a6 : Bool) (a8 : Int) (w : World) (hl : len0 ≤ 1024) (hkm : m < len0) (hkc : len0 ≤ cap0)
   (h1 : A1 < 256) (h2 : A2 < 256) (h3 : A3 < 256) (h7 : A7 < 65536)
   (hm : (A7 : Int) % 80 = m) (hn : (A2 : Int) % 8 = n) (ho : (A3 : Int) % 8 = o) (hm' : m < 80) (hn' : n < 8) (ho' : o < 8) (hA : bits .and .u8 (A1 : Int) ((2 ^ n - 1) % 256) = (a : Int)) (ha : a < 2 ^ n) (ha256 : a < 256)
   (hsrc : Src w a0 m cap0 xs) (h5 : a5 = true) (ho6 : ((o : Int) == 6) = false) :
    Calls Yba.prog 3 #[.slice a0 len0 cap0, .int .u8 A1, .int .u8 A2, .int .u8 A3, .bool a4, .bool a5, .bool a6, .int .u16 A7, .int .i64 a8] w fun e w' => e = .returned (.bool true) ∧ Below w.heap.size w w' := by
  obtain ⟨i0, hi, hz0, hz1, hz2⟩ := info_parts info5
  have hk80 : m < 80 := by omega
  have hq : ∀ (w : World) (a : Option Addr) (n c n' c' : Nat), (binOp .eql 22 (.slice a n c) (.slice none n' c')).run Yba.prog w = .ok (.bool a.isNone) w := fun w a n c n' c' => Lib.run_eql_slice_nil w _ _ a n c n' c' Yba.underlying22
  have hqn : ∀ (w : World) (a : Option Addr) (n c n' c' : Nat), (binOp .neq 22 (.slice a n c) (.slice none n' c')).run Yba.prog w = .ok (.bool !a.isNone) w := fun w a n c n' c' => run_neq_slice_nil_any w _ _ a n c n' c' Yba.underlying22
  obtain ⟨cur, hcur⟩ : ∃ cur : List Value, cur = (madeCells #[Value.int .u8 0] m).toList := ⟨_, rfl⟩
  have hcurl : cur.length = m := by rw [hcur]; simp [madeCells]
  have HC : Hid (cur = _) := hcur
  have HCL : Hid (cur.length = m) := hcurl
  clear hcur hcurl
  have HX : Hid (xs.length = m) := hsrc.len
  subst h5
  go_enter Yba.func3, Yba.ntmps3
  go_wp2_with (at_make; refine wpList_make_full _ rfl _ _ 22 rfl w.heap.size 5 i0 (.int .u8 0) 1 Yba.underlying22 hi hz0 hz1 .i64 .i64 _ _ m rfl rfl (by omega) (by omega) ?b2 ?b3 (Nat.le_refl _) ?_)
  case b2 => rw [hz2]; omega
  case b3 => unfold maxLen; omega
  intro w1 hown1 hgrow1
  have hb1 : Below w.heap.size w w1 := (Below.refl _ _).grown hgrow1 (Nat.le_refl _) (fun _ h => by cases h)
  have hg1 : w1.heap[w.heap.size]? = some (.cells cur.toArray 5 (0, 0)) := by rw [HC.out]; exact made_block hown1
  clear hown1 hgrow1
  go_wp2_with (refine wpList_copy_splice rfl (.tmp 71) (.tmp 72) 22 22 rfl 5 Yba.underlying22 (by rw [hi]; simp [hz1]) _ _ _ _ _ _ rfl rfl w.heap.size 0 cur 5 hg1 (xs.map (Value.int .u8)) ?d1 ?d2 ?d3 (ints_oneCell _ _) w.heap.size w hb1 (Nat.le_refl _) ?_)
  case d1 => rw [List.length_map, HX.out]; simp only [Nat.min_def]; split <;> omega
  case d2 => intro hp; obtain ⟨ad, e1, e2⟩ := hsrc.cells _ hb1 (by simpa [HX.out] using hp); exact ⟨ad, e1, fun j v hj => e2 j _ (by simp [hj])⟩
  case d3 => rw [List.length_map, HX.out, HCL.out]; omega
  intro w2 hg2 hb2
  clear hg1 hb1
  obtain ⟨hBk, hOw, hBe, hSz⟩ := built (m := m) (n := n) (a := a) (o := o) (z := a4) (h := true) (lg := a6) (dd := a8) hg2 hb2 HCL.out HX.out (by omega) (dec m o a4 true (.slice (some ⟨w.heap.size, 0, none⟩) m m) a n a6 a8).toArray (by simp)
  go_wp2_with fail
  refine (take_hunt w.heap.size w2.heap.size m a n m m (some ⟨w.heap.size, 0, none⟩) a8 a4 a6 (xs.map (Value.int .u8)) _ o hBk hOw hSz ho' ho6).mono ?_
  clear hBk hOw
  rintro e w3 ⟨rfl, ad, cap, hB, hown, hb⟩
  have hb3 : Below w.heap.size w w3 := hBe.trans hb
  have hrd : ∀ q, Reads (w3.drewN q) (.slice a0 m cap0) xs := fun q => hsrc.read _ (below_drewN hb3 q)
  have hro : ∀ q, Reads (w3.drewN q) (.slice ad m cap) xs := fun q => reads_own (show (w3.drewN q).ownsRow _ _ _ _ _ _ from hown)
  clear hb hBe hg2 hb2 hsrc
  have g0 := hB.cell 0 rfl
  have g1 := hB.cell 1 rfl
  have g4 := hB.cell 4 rfl
  have g5 := hB.cell 5 rfl
  have g7 := hB.cell 7 rfl
  have g8 := hB.cell 8 rfl
  have g9 := hB.cell 9 rfl
  have g10 := hB.cell 10 rfl
  have g11 := hB.cell 11 rfl
  have g12 := hB.cell 12 rfl
  have g13 := hB.cell 13 rfl
  have g14 := hB.cell 14 rfl
  go_wp2_with fail
  go_quiet ((go_at_call 5; exact Calls.quiet_of_same (equal_same _ _ xs _ (hro _) (hrd _))))
  go_wp2
  go_ret
  exact ⟨by simp, below_drewN hb3 _⟩

set_option maxRecDepth 100000 in
set_option maxHeartbeats 1000000 in
theorem hunt7_b (a0 : Option Addr) (len0 cap0 A1 A2 A3 A7 m n o a : Nat) (xs : List Int) (a4 a5 a6 : Bool) (a8 : Int) (w : World) (hl : len0 ≤ 1024) (hkm : m < len0) (hkc : len0 ≤ cap0)
   (h1 : A1 < 256) (h2 : A2 < 256) (h3 : A3 < 256) (h7 : A7 < 65536)
   (hm : (A7 : Int) % 80 = m) (hn : (A2 : Int) % 8 = n) (ho : (A3 : Int) % 8 = o) (hm' : m < 80) (hn' : n < 8) (ho' : o < 8) (hA : bits .and .u8 (A1 : Int) ((2 ^ n - 1) % 256) = (a : Int)) (ha : a < 2 ^ n) (ha256 : a < 256)
   (hsrc : Src w a0 m cap0 xs) (h5 : a5 = false) (ho6 : ((o : Int) == 6) = false) (ho7 : ((o : Int) == 7) = true) :
    Calls Yba.prog 3 #[.slice a0 len0 cap0, .int .u8 A1, .int .u8 A2, .int .u8 A3, .bool a4, .bool a5, .bool a6, .int .u16 A7, .int .i64 a8] w fun e w' => e = .returned (.bool true) ∧ Below w.heap.size w w' := by
  obtain ⟨i0, hi, hz0, hz1, hz2⟩ := info_parts info5
  have hk80 : m < 80 := by omega
  have hq : ∀ (w : World) (a : Option Addr) (n c n' c' : Nat), (binOp .eql 22 (.slice a n c) (.slice none n' c')).run Yba.prog w = .ok (.bool a.isNone) w := fun w a n c n' c' => Lib.run_eql_slice_nil w _ _ a n c n' c' Yba.underlying22
  have hqn : ∀ (w : World) (a : Option Addr) (n c n' c' : Nat), (binOp .neq 22 (.slice a n c) (.slice none n' c')).run Yba.prog w = .ok (.bool !a.isNone) w := fun w a n c n' c' => run_neq_slice_nil_any w _ _ a n c n' c' Yba.underlying22
  obtain ⟨cur, hcur⟩ : ∃ cur : List Value, cur = (madeCells #[Value.int .u8 0] m).toList := ⟨_, rfl⟩
  have hcurl : cur.length = m := by rw [hcur]; simp [madeCells]
  have HC : Hid (cur = _) := hcur
  have HCL : Hid (cur.length = m) := hcurl
  clear hcur hcurl
  have HX : Hid (xs.length = m) := hsrc.len
  subst h5
  go_enter Yba.func3, Yba.ntmps3
  go_wp2_with (at_make; refine wpList_make_full _ rfl _ _ 22 rfl w.heap.size 5 i0 (.int .u8 0) 1 Yba.underlying22 hi hz0 hz1 .i64 .i64 _ _ m rfl rfl (by omega) (by omega) ?b2 ?b3 (Nat.le_refl _) ?_)
  case b2 => rw [hz2]; omega
  case b3 => unfold maxLen; omega
  intro w1 hown1 hgrow1
  have hb1 : Below w.heap.size w w1 := (Below.refl _ _).grown hgrow1 (Nat.le_refl _) (fun _ h => by cases h)
  have hg1 : w1.heap[w.heap.size]? = some (.cells cur.toArray 5 (0, 0)) := by rw [HC.out]; exact made_block hown1
  clear hown1 hgrow1
  go_wp2_with (refine wpList_copy_splice rfl (.tmp 71) (.tmp 72) 22 22 rfl 5 Yba.underlying22 (by rw [hi]; simp [hz1]) _ _ _ _ _ _ rfl rfl w.heap.size 0 cur 5 hg1 (xs.map (Value.int .u8)) ?d1 ?d2 ?d3 (ints_oneCell _ _) w.heap.size w hb1 (Nat.le_refl _) ?_)
  case d1 => rw [List.length_map, HX.out]; simp only [Nat.min_def]; split <;> omega
  case d2 => intro hp; obtain ⟨ad, e1, e2⟩ := hsrc.cells _ hb1 (by simpa [HX.out] using hp); exact ⟨ad, e1, fun j v hj => e2 j _ (by simp [hj])⟩
  case d3 => rw [List.length_map, HX.out, HCL.out]; omega
  intro w2 hg2 hb2
  clear hg1 hb1
  obtain ⟨hBk, hOw, hBe, hSz⟩ := built (m := m) (n := n) (a := a) (o := o) (z := a4) (h := true) (lg := a6) (dd := a8) hg2 hb2 HCL.out HX.out (by omega) (dec m o a4 true (.slice (some ⟨w.heap.size, 0, none⟩) m m) a n a6 a8).toArray (by simp)
  go_wp2_with fail
  refine (take_hunt w.heap.size w2.heap.size m a n m m (some ⟨w.heap.size, 0, none⟩) a8 a4 a6 (xs.map (Value.int .u8)) _ o hBk hOw hSz ho' ho6).mono ?_
  clear hBk hOw
  rintro e w3 ⟨rfl, ad, cap, hB, hown, hb⟩
  have hb3 : Below w.heap.size w w3 := hBe.trans hb
  have hrd : ∀ q, Reads (w3.drewN q) (.slice a0 m cap0) xs := fun q => hsrc.read _ (below_drewN hb3 q)
  have hro : ∀ q, Reads (w3.drewN q) (.slice ad m cap) xs := fun q => reads_own (show (w3.drewN q).ownsRow _ _ _ _ _ _ from hown)
  clear hb hBe hg2 hb2 hsrc
  have g0 := hB.cell 0 rfl
  have g1 := hB.cell 1 rfl
  have g4 := hB.cell 4 rfl
  have g5 := hB.cell 5 rfl
  have g7 := hB.cell 7 rfl
  have g8 := hB.cell 8 rfl
  have g9 := hB.cell 9 rfl
  have g10 := hB.cell 10 rfl
  have g11 := hB.cell 11 rfl
  have g12 := hB.cell 12 rfl
  have g13 := hB.cell 13 rfl
  have g14 := hB.cell 14 rfl
  go_wp2_with fail
  go_quiet ((go_at_call 5; exact Calls.quiet_of_same (equal_same _ _ xs _ (hro _) (hrd _))))
  go_wp2
  go_ret
  exact ⟨by simp, below_drewN hb3 _⟩

end Go.Proofs.Ybulkcvts

/- 'zzs4870bitoa': the decimal numeral, by hand. -/
import Derived.Test.YbulkcvviDoorBase
namespace Go.Proofs.YbulkcvviDoor
open Go.RowKit

def nv (L : List Nat) : List Value := L.map fun b : Nat => Value.int .u8 (b : Int)
theorem nv_get {L : List Nat} {i : Nat} (h : i < L.length) : (nv L)[i]? = some (.int .u8 ((L.getD i 0 : Nat) : Int)) := by
  simp [nv, List.getElem?_eq_getElem h, List.getD]
theorem nv_set (L : List Nat) (i b : Nat) : (nv L).set i (.int .u8 (b : Int)) = nv (L.set i b) := by simp [nv, List.map_set]
theorem nv_bytes (l : List UInt8) : nv (l.map UInt8.toNat) = Lib.byteCells l := by simp [nv, Lib.byteCells]

/-- The digits written so far: the last of them at the row's end. -/
structure Dg (w wr : World) (U c uh : Nat) (L : List Nat) (suf : List UInt8) : Prop where
  blk : Blk wr w.heap.size 94 (nv L)
  len : L.length = 24
  drop : L.drop c = suf.map UInt8.toNat
  digs : Lib.decDigits uh ++ suf = Lib.decDigits U
  cnt : c + suf.length = 24
  below : Below w.heap.size w wr
  le : uh ≤ U

theorem dec_pos (u : Nat) : 1 ≤ (Lib.decDigits u).length := by
  rw [Lib.decDigits]; split <;> simp
theorem drop_set (L : List Nat) (c b : Nat) (h : c < L.length) : (L.set c b).drop c = b :: L.drop (c + 1) := by
  rw [List.drop_eq_getElem_cons (by simpa using h)]
  simp [List.drop_set]
theorem dig_nat (u : Nat) : (UInt8.ofNat (48 + u % 10)).toNat = 48 + u % 10 := by
  have : u % 10 < 10 := Nat.mod_lt _ (by decide)
  rw [UInt8.toNat_ofNat']; omega

theorem Dg.put {w wr : World} {U c uh : Nat} {L : List Nat} {suf : List UInt8} (h : Dg w wr U (c + 1) uh L suf) (v : Value) (hv : v = .int .u8 ((48 + uh % 10 : Nat) : Int)) :
    Blk (wr.setCell ⟨w.heap.size, c, none⟩ v) w.heap.size 94 (nv (L.set c (48 + uh % 10))) ∧ (L.set c (48 + uh % 10)).drop c = (UInt8.ofNat (48 + uh % 10) :: suf).map UInt8.toNat ∧ Below w.heap.size w (wr.setCell ⟨w.heap.size, c, none⟩ v) := by
  have hc := h.cnt
  have hl := h.len
  subst hv
  refine ⟨by rw [← nv_set]; exact h.blk.set c _, ?_, h.below.setCell (by simp) _⟩
  rw [drop_set L c _ (by omega), h.drop, List.map_cons, dig_nat]
theorem Dg.more {w wr : World} {U c uh : Nat} {L : List Nat} {suf : List UInt8} (h : Dg w wr U (c + 1) uh L suf) (v : Value) (hv : v = .int .u8 ((48 + uh % 10 : Nat) : Int)) (h10 : ¬ uh < 10) :
    Dg w (wr.setCell ⟨w.heap.size, c, none⟩ v) U c (uh / 10) (L.set c (48 + uh % 10)) (UInt8.ofNat (48 + uh % 10) :: suf) := by
  obtain ⟨h1, h2, h3⟩ := h.put v hv
  have hc := h.cnt
  refine ⟨h1, by simp [h.len], h2, ?_, by simp; omega, h3, by have := h.le; omega⟩
  have hd := h.digs
  rw [Lib.decDigits, dif_neg h10] at hd
  rw [← hd]; simp
theorem Dg.last {w wr : World} {U c uh : Nat} {L : List Nat} {suf : List UInt8} (h : Dg w wr U (c + 1) uh L suf) (v : Value) (hv : v = .int .u8 ((48 + uh % 10 : Nat) : Int)) (h10 : uh < 10) :
    ∃ M : List Nat, M.length = 24 ∧ Blk (wr.setCell ⟨w.heap.size, c, none⟩ v) w.heap.size 94 (nv M) ∧ M.drop c = (Lib.decDigits U).map UInt8.toNat ∧ c + (Lib.decDigits U).length = 24 ∧ Below w.heap.size w (wr.setCell ⟨w.heap.size, c, none⟩ v) := by
  obtain ⟨h1, h2, h3⟩ := h.put v hv
  have hc := h.cnt
  have hd := h.digs
  rw [Lib.decDigits_one h10] at hd
  have he : UInt8.ofNat (48 + uh % 10) :: suf = Lib.decDigits U := by rw [← hd, Nat.mod_eq_of_lt h10]; rfl
  rw [he] at h2
  refine ⟨_, by simp [h.len], h1, h2, ?_, h3⟩
  rw [← he]; simp; omega
theorem Dg.room {w wr : World} {U c uh : Nat} {L : List Nat} {suf : List UInt8} (h : Dg w wr U c uh L suf) (hU : (Lib.decDigits U).length ≤ 20) : 5 ≤ c := by
  have h1 := h.cnt
  have h2 := congrArg List.length h.digs
  have h3 := dec_pos uh
  simp at h2
  omega

/-- The row's cells from c on. -/
theorem arr94 : Ybad.prog.arrayLen 94 = 24 := by kernel_rfl
set_option maxRecDepth 100000 in
theorem slice_tail (b c : Nat) (hc : c < 24) (W : World) : (Instr.sliceAt 94 (.pointer (some ⟨b, 0, none⟩)) (some (.int .i64 (c : Int))) none none).run Ybad.prog W = .ok (.slice (some ⟨b, c, none⟩) (24 - c) (24 - c)) W := by
  have h2 : ¬ (24 = c) := by omega
  rw [run_sliceAt_array_l (P := Ybad.prog) W 94 ⟨b, 0, none⟩ Ybad.underlying94 .i64 (c : Int) (by omega) (by rw [arr94]; omega), arr94]
  simp [go_sem, slicedAt, Addr.add, h2]
  intro h; exact h.symm
theorem tail_cells {w : World} {B c : Nat} {M : List Nat} {D : List UInt8} (hB : Blk w B 94 (nv M)) (hd : M.drop c = D.map UInt8.toNat) : ∀ (j : Nat) (u : Value), (Lib.byteCells D)[j]? = some u → w.cell? ((⟨B, c, none⟩ : Addr).add j) = some u := by
  intro j u hj
  have e : (⟨B, c, none⟩ : Addr).add j = ⟨B, c + j, none⟩ := by unfold Addr.add; split <;> simp_all
  rw [e]
  refine hB.cell _ ?_
  rw [← nv_bytes, ← hd] at hj
  simpa [nv, List.getElem?_drop] using hj
theorem bytes_one (l : List UInt8) : ∀ u ∈ Lib.byteCells l, u.oneCell' = true := by
  intro u hu; simp [Lib.byteCells] at hu; obtain ⟨a, _, rfl⟩ := hu; rfl
theorem own_nil_any {w : World} {B n : Nat} {v : Value} {xs : List Value} (h : w.ownsRow B 5 1 v n xs) {B' : Nat} (hb : B' ≤ B) : w.ownsRow B' 5 1 v n xs := by
  obtain ⟨hl, h | ⟨g, c, cur, he, hg, hr⟩⟩ := h
  · exact ⟨hl, .inl h⟩
  · exact ⟨hl, .inr ⟨g, c, cur, he, Nat.le_trans hb hg, hr⟩⟩

def Num (w : World) (v : Int) (e : Ending) (w' : World) : Prop :=
  ∃ ad cap, e = .returned (.slice (some ad) (Lib.itoa v).length cap) ∧ w'.ownsRow w.heap.size 5 1 (.slice (some ad) (Lib.itoa v).length cap) (Lib.itoa v).length (Lib.byteCells (Lib.itoa v)) ∧ Below w.heap.size w w'

theorem own_addr {w : World} {B n : Nat} {v : Value} {xs : List Value} (h : w.ownsRow B 5 1 v n xs) (hn : 0 < n) : ∃ ad cap, v = .slice (some ad) n cap := by
  obtain ⟨_, ⟨_, rfl⟩ | ⟨g, c, cur, rfl, _⟩⟩ := h
  · omega
  · exact ⟨_, _, rfl⟩

theorem wrap_neg (v : Int) (h0 : -9223372036854775808 ≤ v) (h1 : v < 0) : IntKind.u64.wrap (-IntKind.u64.wrap v) = ((v.natAbs : Nat) : Int) := by
  simp only [IntKind.wrap_u64]; omega

set_option maxRecDepth 100000 in
set_option maxHeartbeats 1000000 in
theorem itoa_pos (v : Int) (w : World) (h0 : 0 ≤ v) (h1 : v ≤ 9223372036854775807) : Calls Ybad.prog 8 #[.int .i64 v] w fun e w' => Num w v e w' := by
  obtain ⟨U, rfl⟩ := Int.eq_ofNat_of_zero_le h0
  have hit : Lib.itoa (U : Int) = Lib.decDigits U := by unfold Lib.itoa; rw [if_neg (by omega)]; simp
  have hlen : (Lib.decDigits U).length ≤ 20 := by
    rw [Lib.decDigits_length]; exact Lib.nDigits_le20 U (by omega)
  have HL : Hid ((Lib.decDigits U).length ≤ 20) := hlen
  have HI : Hid (Lib.itoa (U : Int) = Lib.decDigits U) := hit
  clear hlen hit
  obtain ⟨i0, hi, hz0, hz1, hz2⟩ := info_parts info5
  go_enter Ybad.func8, Ybad.ntmps8
  go_wp2_with fail
  go_loopw [3, 6] (fun s3 s6 wr => ∃ (c uh : Nat) (L : List Nat) (suf : List UInt8), s3 = .int .u64 uh ∧ s6 = .int .i64 c ∧ Dg w wr U c uh L suf) (fun s3 _ _ => (intOf s3).toNat)
  case atStart => exact ⟨24, U, List.replicate 24 0, [], rfl, rfl, ⟨Blk.new w 94 _, by simp, by simp, by simp, rfl, (Below.refl _ _).alloc (Nat.le_refl _) _, Nat.le_refl _⟩⟩
  case round =>
    obtain ⟨c, uh, L, suf, rfl, rfl, hD⟩ := hrel
    have hc5 := hD.room HL.out
    have hct := hD.cnt
    have huU := hD.le
    obtain ⟨c, rfl⟩ : ∃ c', c = c' + 1 := ⟨c - 1, by omega⟩
    have t0 := hD.blk.cell c (nv_get (by rw [hD.len]; omega))
    have tf := hD.blk.free c
    by_cases h10 : uh < 10
    · obtain ⟨M, hMl, hMB, hMd, hMc, hMb⟩ := hD.last (.int .u8 (48 + (uh : Int) % 10)) (by go_num) h10
      clear hD
      rw [← HI.out] at hMd hMc
      have hsl := slice_tail w.heap.size c (by omega)
      go_wp2_with (at_builtin; refine wpList_append_own _ rfl _ _ 22 rfl w.heap.size 5 i0 (.int .u8 0) 1 1 Ybad.underlying22 hi hz0 hz1 hz2 rfl (by decide) _ 0 [] rfl (World.ownsRow_nil _ _ _ _) ⟨w.heap.size, c, none⟩ (24 - c) (24 - c) (Lib.byteCells (Lib.itoa (U : Int))) rfl ?c0 (tail_cells hMB hMd) (bytes_one _) ?c3 ?c4 ?c5 ?_)
      case c0 => simp [Lib.byteCells]; omega
      case c3 => unfold maxLen; omega
      case c4 => omega
      case c5 => have := hMB.lt; simp at this ⊢; omega
      intro v' w2 hown2 hgrow2 _
      have hb2 : Below w.heap.size w w2 := hMb.grown hgrow2 (by have := hMB.lt; simp at this ⊢; omega) (fun b hb => by cases hb)
      have e24 : 24 - c = (Lib.itoa (U : Int)).length := by omega
      rw [e24] at hown2
      obtain ⟨ad, cap, rfl⟩ := own_addr hown2 (by omega)
      clear hgrow2 hsl hMB hMb
      go_wp2
      go_ret
      exact ⟨ad, cap, by simp, hown2, hb2⟩
    · go_wp2
      go_roundw
      case rel => exact ⟨c, uh / 10, _, _, by go_num, by go_num, hD.more _ (by go_num) h10⟩
      case measure => simp [intOf]; omega
set_option maxRecDepth 100000 in
set_option maxHeartbeats 1000000 in
theorem itoa_neg (v : Int) (w : World) (h0 : -9223372036854775808 ≤ v) (h1 : v < 0) : Calls Ybad.prog 8 #[.int .i64 v] w fun e w' => Num w v e w' := by
  obtain ⟨U, HU⟩ : ∃ U, Hid (U = v.natAbs) := ⟨_, rfl⟩
  have hit : Lib.itoa v = 45 :: Lib.decDigits U := by unfold Lib.itoa; rw [if_pos h1, HU.out]
  have hlen : (Lib.decDigits U).length ≤ 20 := by
    rw [Lib.decDigits_length]; exact Lib.nDigits_le20 U (by rw [HU.out]; omega)
  have HL : Hid ((Lib.decDigits U).length ≤ 20) := hlen
  have HI : Hid (Lib.itoa v = 45 :: Lib.decDigits U) := hit
  clear hlen hit
  obtain ⟨i0, hi, hz0, hz1, hz2⟩ := info_parts info5
  go_enter Ybad.func8, Ybad.ntmps8
  go_wp2_with fail
  go_loopw [3, 6] (fun s3 s6 wr => ∃ (c uh : Nat) (L : List Nat) (suf : List UInt8), s3 = .int .u64 uh ∧ s6 = .int .i64 c ∧ Dg w wr U c uh L suf) (fun s3 _ _ => (intOf s3).toNat)
  case atStart => exact ⟨24, U, List.replicate 24 0, [], by rw [HU.out, wrap_neg v h0 h1], rfl, ⟨Blk.new w 94 _, by simp, by simp, by simp, rfl, (Below.refl _ _).alloc (Nat.le_refl _) _, Nat.le_refl _⟩⟩
  case round =>
    obtain ⟨c, uh, L, suf, rfl, rfl, hD⟩ := hrel
    have hc5 := hD.room HL.out
    have hct := hD.cnt
    have huU := hD.le
    have hU3 : U ≤ 9223372036854775808 := by rw [HU.out]; omega
    obtain ⟨c, rfl⟩ : ∃ c', c = c' + 1 := ⟨c - 1, by omega⟩
    have t0 := hD.blk.cell c (nv_get (by rw [hD.len]; omega))
    have tf := hD.blk.free c
    by_cases h10 : uh < 10
    · obtain ⟨M, hMl, hMB, hMd, hMc, hMb⟩ := hD.last (.int .u8 (48 + (uh : Int) % 10)) (by go_num) h10
      clear hD
      have hc1 : 1 ≤ c := by omega
      obtain ⟨d, rfl⟩ : ∃ d, c = d + 1 := ⟨c - 1, by omega⟩
      have t1 := hMB.cell d (nv_get (by rw [hMl]; omega))
      have hMB2 := hMB.set d (.int .u8 45)
      rw [show (Value.int .u8 45) = .int .u8 ((45 : Nat) : Int) from rfl, nv_set] at hMB2
      have hMd2 : (M.set d 45).drop d = (Lib.itoa v).map UInt8.toNat := by rw [drop_set M d 45 (by omega), hMd, HI.out]; rfl
      have hMc2 : d + (Lib.itoa v).length = 24 := by rw [HI.out]; simp; omega
      have hMbb := hMb.setCell (p := ⟨w.heap.size, d, none⟩) (by simp) (.int .u8 45)
      have hsl := slice_tail w.heap.size d (by omega)
      have hnf := hMB.free d
      clear hMd hMb
      go_wp2_with (at_builtin; refine wpList_append_own _ rfl _ _ 22 rfl w.heap.size 5 i0 (.int .u8 0) 1 1 Ybad.underlying22 hi hz0 hz1 hz2 rfl (by decide) _ 0 [] rfl (World.ownsRow_nil _ _ _ _) ⟨w.heap.size, d, none⟩ (24 - d) (24 - d) (Lib.byteCells (Lib.itoa v)) rfl ?c0 (tail_cells hMB2 hMd2) (bytes_one _) ?c3 ?c4 ?c5 ?_)
      case c0 => simp [Lib.byteCells]; omega
      case c3 => unfold maxLen; omega
      case c4 => omega
      case c5 => have := hMB.lt; simp at this ⊢; omega
      intro v' w2 hown2 hgrow2 _
      have hb2 : Below w.heap.size w w2 := hMbb.grown hgrow2 (by have := hMB.lt; simp at this ⊢; omega) (fun b hb => by cases hb)
      have e24 : 24 - d = (Lib.itoa v).length := by omega
      rw [e24] at hown2
      obtain ⟨ad, cap, rfl⟩ := own_addr hown2 (by omega)
      clear hgrow2 hsl hMB hMB2 hMbb
      go_wp2
      go_ret
      exact ⟨ad, cap, by simp, hown2, hb2⟩
    · go_wp2
      go_roundw
      case rel => exact ⟨c, uh / 10, _, _, by go_num, by go_num, hD.more _ (by go_num) h10⟩
      case measure => simp [intOf]; omega
theorem itoa_any (v : Int) (w : World) (h0 : -9223372036854775808 ≤ v) (h1 : v ≤ 9223372036854775807) : Calls Ybad.prog 8 #[.int .i64 v] w fun e w' => Num w v e w' := by
  rcases Int.lt_or_le v 0 with h | h
  · exact itoa_neg v w h0 h
  · exact itoa_pos v w h h1
end Go.Proofs.YbulkcvviDoor

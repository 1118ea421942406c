/- LawS4870BOrder: one round's steps, as facts on worlds. -/
import Derived.Test.YbulkcvviDoorOrderSt
namespace Go.Proofs.YbulkcvviDoor
open Go.RowKit
set_option linter.unusedVariables false

theorem info71 : (Ybad.prog.info? 71).map (fun i => (i.zero, i.size, i.bytes)) = some (some (.pointer none), 1, 8) := by kernel_rfl
theorem below_drewN {B : Nat} {w w' : World} (h : Below B w w') (n : Nat) : Below B w (w'.drewN n) := ⟨h.os, h.tape, h.output, h.size, h.block⟩
def txN (s : ByteArray) : List Value :=
  [.string s, .bool false, .bool false, .int .u16 0, .int .u16 0, .int .u32 0, .int .i32 0, .int .i64 0, .pointer none, .pointer none, .pointer none, .pointer none, .int .i32 0, .pointer none, .pointer none, .int .i64 0, .int .i64 0, .int .i64 0, .int .i64 0]
def nameS (i : Nat) : ByteArray := ⟨#[84]⟩ ++ ⟨(Lib.itoa (i : Int)).toArray⟩
theorem nameS_le (i : Nat) (h : i < 1000) : (nameS i).size ≤ 22 := by
  have := Lib.itoa_length_le (i : Int) (by omega) (by omega)
  simp [nameS, ByteArray.size] at *
  omega
theorem nameS_run (i : Nat) (h : i < 1000) (W : World) : (Op.stringOp .add ⟨#[84]⟩ ⟨(Lib.itoa (i : Int)).toArray⟩).run Ybad.prog W = .ok (.string (nameS i)) W := by
  have := Lib.itoa_length_le (i : Int) (by omega) (by omega)
  have e : ¬ (9223372036854775807 < (1 : Int) + ((Lib.itoa (i : Int)).length : Int)) := by omega
  simp [Op.stringOp, ByteArray.size, nameS, *]
theorem lineN_len (i : Nat) (h : i < 1000) (lk : Bool) (v : Int) (hv : -9223372036854775808 ≤ v ∧ v ≤ 9223372036854775807) : (lineL (nameS i) lk v).length ≤ 1100 := by
  have h1 := Lib.itoa_length_le v hv.1 hv.2
  have h2 := nameS_le i h
  have h3 : (nameS i).data.size ≤ 22 := h2
  cases lk <;> simp [lineL, waitsS, noS, lockS] <;> omega
theorem cnt_le (lk : Nat → Bool) : ∀ i, cnt lk i ≤ i
  | 0 => Nat.le_refl _
  | i + 1 => by
    have := cnt_le lk i
    simp only [cnt, cntL]
    split <;> omega
theorem cnt_lt (lk : Nat → Bool) (i : Nat) (hi : lk i = true) : ∀ n, i < n → cnt lk i < cnt lk n
  | 0, h => by omega
  | n + 1, h => by
    simp only [cnt]
    by_cases e : i = n
    · subst e; rw [hi]; simp [cntL]
    · have := cnt_lt lk i hi n (by omega)
      omega
theorem Sb.cell {w : World} {S N i : Nat} {Tf : Nat → Nat} (h : Sb w S N i Tf) (hi : i < N) : w.cell? ⟨S, i, none⟩ = some (.pointer none) := by
  obtain ⟨tsl, h1, h2, h3, h4⟩ := h
  exact h1.cell i (h4 i (Nat.le_refl _) hi)
theorem Sb.old {w : World} {S N i : Nat} {Tf : Nat → Nat} (h : Sb w S N i Tf) {k : Nat} (hk : k < i) : w.cell? ⟨S, k, none⟩ = some (.pointer (some ⟨Tf k, 0, none⟩)) := by
  obtain ⟨tsl, h1, h2, h3, h4⟩ := h
  exact h1.cell k (h3 k hk)
theorem Sb.free {w : World} {S N i : Nat} {Tf : Nat → Nat} (h : Sb w S N i Tf) (k : Nat) : w.frozen? ⟨S, k, none⟩ = false := by
  obtain ⟨tsl, h1, _⟩ := h
  exact h1.free k
theorem Sb.lt {w : World} {S N i : Nat} {Tf : Nat → Nat} (h : Sb w S N i Tf) : S < w.heap.size := by
  obtain ⟨tsl, h1, _⟩ := h
  exact h1.lt

/-- The loop's relation. -/
def Lp (N : Nat) (wts : Int) (lk : Nat → Bool) (w : World) (i : Nat) (ex : Value) (wr : World) : Prop :=
  ∃ cs tk L ado capo adw capw Tf Wf, St w.heap.size w.heap.size wts lk w i cs tk L ado capo adw capw Tf Wf wr ∧ Sb wr (w.heap.size + 1) N i Tf ∧ wr.ownsRow w.heap.size 5 1 ex L.length (Lib.byteCells L) ∧
    (∀ k, ex.ownBlock = some k → (Value.slice ado L.length capo).ownBlock ≠ some k) ∧ L.length ≤ i * 1100

theorem Lp.init {N : Nat} {wts : Int} {lk : Nat → Bool} {w w1 : World} {cells : Array Value} (hw : -9223372036854775808 ≤ wts ∧ wts ≤ 9223372036854775807)
    (k80 : cells.toList[1080]? = some (.int .i64 wts)) (k83 : cells.toList[1083]? = some (.slice none 0 0)) (k84 : cells.toList[1084]? = some (.slice none 0 0)) (k87 : cells.toList[1087]? = some (.bool false))
    (hb : Below (w.heap.size + 1) (w.alloc (.cells cells 69)) w1) (hS : Blk w1 (w.heap.size + 1) 71 (madeCells #[Value.pointer none] N).toList) : Lp N wts lk w 0 (.slice none 0 0) w1 := by
  have hsz := hb.size
  rw [size_alloc] at hsz
  refine ⟨cells.toList, [], [], none, 0, none, 0, fun _ => 0, fun _ => 0, ⟨by omega, Nat.le_refl _, (Blk.new w 69 cells).below hb (by omega), ?_, k83, k84, k87, World.ownsRow_nil _ _ _ _, World.ownsRow_nil _ _ _ _, ((Below.refl _ _).alloc (Nat.le_refl _) _).trans (hb.mono (by omega)), fun k hk => by omega, fun k hk => by omega⟩, ⟨_, hS, by simp [madeCells], fun k hk => by omega, fun k _ hk => ?_⟩, World.ownsRow_nil _ _ _ _, (fun k hk => nomatch hk), Nat.zero_le _⟩
  · rw [k80]
    have : wrap64 (wts + (0 : Nat)) = wts := by unfold wrap64; omega
    rw [this]
  · have e : k % 1 = 0 := Nat.mod_one k
    simp [madeCells, hk, e]

/-- The world in which 'startWait' is called. -/
def putW (S i : Nat) (s : ByteArray) (w1 : World) : World := (w1.setCell ⟨S, i, none⟩ (.pointer (some ⟨w1.heap.size, 0, none⟩))).alloc (.cells (txN s).toArray 78)
structure PreO (B S N : Nat) (wts : Int) (lk : Nat → Bool) (w0 : World) (i : Nat) (cs tk : List Value) (L : List UInt8) (ado : Option Addr) (capo : Nat) (adw : Option Addr) (capw : Nat) (Tf Wf : Nat → Nat) (s : ByteArray) (ex : Value) (w1 : World) : Prop where
  st : St B B wts lk w0 i cs tk L ado capo adw capw Tf Wf (putW S i s w1)
  sb : Sb (putW S i s w1) S N (i + 1) (upd Tf i w1.heap.size)
  ex : (putW S i s w1).ownsRow B 5 1 ex L.length (Lib.byteCells L)
  tx : Blk (putW S i s w1) w1.heap.size 78 (txN s)
  fresh : ∀ k, k < i → Tf k ≠ w1.heap.size
/-- Behind 'startWait'. -/
structure Nx (B S N : Nat) (wts : Int) (lk : Nat → Bool) (w0 : World) (i : Nat) (cs tk : List Value) (L : List UInt8) (M : List UInt8) (ado : Option Addr) (capo : Nat) (adw : Option Addr) (capw : Nat) (Tf Wf : Nat → Nat) (ex : Value) (w : World) : Prop where
  st : St B B wts lk w0 i cs tk L ado capo adw capw Tf Wf w
  sb : Sb w S N i Tf
  row : w.ownsRow B 5 1 ex M.length (Lib.byteCells M)
  ne : ∀ k, ex.ownBlock = some k → (Value.slice ado L.length capo).ownBlock ≠ some k

section
variable {B S N : Nat} {wts : Int} {lk : Nat → Bool} {w0 : World} {i : Nat} {cs tk : List Value} {L M : List UInt8} {ado : Option Addr} {capo : Nat} {adw : Option Addr} {capw : Nat} {Tf Wf : Nat → Nat} {w w1 w' : World} {ex ex' : Value} {s : ByteArray}

theorem St.pre (h : St B B wts lk w0 i cs tk L ado capo adw capw Tf Wf w1) (hS : Sb w1 S N i Tf) (hlt : i < N) (hex : w1.ownsRow B 5 1 ex L.length (Lib.byteCells L)) (s : ByteArray) (hBS : B ≤ S) : PreO B S N wts lk w0 i cs tk L ado capo adw capw Tf Wf s ex w1 := by
  have hS2 := hS
  obtain ⟨tsl, hT, _⟩ := hS2
  have h2 := h.setS hT hBS i (.pointer (some ⟨w1.heap.size, 0, none⟩))
  have h3 := Blk.new (w1.setCell ⟨S, i, none⟩ (.pointer (some ⟨w1.heap.size, 0, none⟩))) 78 (txN s).toArray
  rw [size_setCell] at h3
  refine ⟨h2.later ((Below.refl _ _).alloc (Nat.le_refl _) _), (hS.put hlt w1.heap.size).to fun cs hc => hc.alloc _, (own_set hex hT (by decide) _ _).alloc _, h3, fun k hk => ?_⟩
  obtain ⟨tc, wc, h1, _⟩ := h.tx k hk
  have := h1.lt
  omega

theorem PreO.next (h : PreO B S N wts lk w0 i cs tk L ado capo adw capw Tf Wf s ex w1) (hne : ∀ k, ex.ownBlock = some k → (Value.slice ado L.length capo).ownBlock ≠ some k) {b : Bool} (lk_i : lk i = b) {Wt : Nat} {v : Int} {cs' : List Value} {ad ad2 : Option Addr} {cap cap2 : Nat}
    (hSp : SpG B B w1.heap.size L.length (cnt lk i) (.slice ado L.length capo) s v 0 b (txN s) (Lib.byteCells L) tk (wrap64 (wrap64 (wts + i) + 1)) Wt (putW S i s w1) w' cs' ad cap ad2 cap2) :
    Nx B S N wts lk w0 (i + 1) cs' (tk ++ tskL b Wt) (L ++ lineL s b v) L ad cap ad2 cap2 (upd Tf i w1.heap.size) (upd Wf i Wt) ex w' := by
  subst lk_i
  have h4 := h.st.next hSp h.fresh (by simp [txN]) ⟨_, h.tx⟩
  obtain ⟨hex4, hne4⟩ := h.st.nextEx hSp ⟨_, h.tx⟩ h.ex hne
  refine ⟨h4, h.sb.to fun cs hc => hSp.kept _ _ _ hc (fun e => own_ne5 h.st.out hc (by decide) e.symm) (by decide) (blk_ne hc h.st.db (by decide)) (blk_ne hc h.tx (by decide)), hex4, ?_⟩
  rw [List.length_append]
  exact hne4
theorem Nx.later (h : Nx B S N wts lk w0 i cs tk L M ado capo adw capw Tf Wf ex w) (hb : Below w.heap.size w w') : Nx B S N wts lk w0 i cs tk L M ado capo adw capw Tf Wf ex w' :=
  ⟨h.st.later hb, h.sb.to fun cs hc => hc.below hb hc.lt, own_later5 h.row hb, h.ne⟩
theorem Nx.grew (h : Nx B S N wts lk w0 i cs tk (M ++ L) M ado capo adw capw Tf Wf ex w) (hex' : w'.ownsRow B 5 1 ex' (M.length + L.length) (Lib.byteCells M ++ Lib.byteCells L)) (hg : Grew ex ex' w w') : Nx B S N wts lk w0 i cs tk (M ++ L) (M ++ L) ado capo adw capw Tf Wf ex' w' := by
  obtain ⟨h6, hne6⟩ := h.st.grew h.row h.ne hg
  refine ⟨h6, h.sb.to fun cs hc => hc.grown hg.by' (own_ne5 h.row hc (by decide)), ?_, hne6⟩
  rw [List.length_append, bytes_app]
  exact hex'
end
theorem Nx.rel {N : Nat} {wts : Int} {lk : Nat → Bool} {w wr : World} {i : Nat} {cs tk : List Value} {L M : List UInt8} {ado : Option Addr} {capo : Nat} {adw : Option Addr} {capw : Nat} {Tf Wf : Nat → Nat} {ex : Value} (h : Nx w.heap.size (w.heap.size + 1) N wts lk w (i + 1) cs tk (L ++ M) (L ++ M) ado capo adw capw Tf Wf ex wr) (hM : M.length ≤ 1100) (hL : L.length ≤ i * 1100) : Lp N wts lk w (i + 1) ex wr :=
  ⟨cs, tk, L ++ M, ado, capo, adw, capw, Tf, Wf, h.st, h.sb, h.row, h.ne, by rw [List.length_append]; omega⟩
end Go.Proofs.YbulkcvviDoor

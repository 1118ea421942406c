/- The tasks' row; pointers held against each other; a slice that came in, copied. -/
import Derived.Test.YbulkcvviDoorDb
import Derived.Test.YbulkcvviDoorItoa
import Derived.LaidEql
import Derived.Laws.AppendOwnNone
import Derived.OpenShut
namespace Go.Proofs.YbulkcvviDoor
open Go.RowKit Go.ChangeShapes Go.WideShapes

/-- Behind i rounds the tasks ahead of i bear their numbers. -/
structure Tsk (cur : List Value) (n i : Nat) : Prop where
  len : cur.length = n * 5
  c0 : ∀ j, j < n → cur[j * 5]? = some (.slice none 0 0)
  c1 : ∀ j, j < n → cur[j * 5 + 1]? = some (.int .i64 (if j < i then (j : Int) else 0))
  c2 : ∀ j, j < n → cur[j * 5 + 2]? = some (.pointer none)
  c3 : ∀ j, j < n → cur[j * 5 + 3]? = some (.slice none 0 0)
  c4 : ∀ j, j < n → cur[j * 5 + 4]? = some (.int .i64 0)

theorem made5 (z : Array Value) (hz : z.size = 5) (n j r : Nat) (hj : j < n) (hr : r < 5) : (madeCells z (n * 5)).toList[j * 5 + r]? = some z[r]! := by
  have h1 : j * 5 + r < n * 5 := by omega
  have h2 : (j * 5 + r) % 5 = r := by omega
  simp [madeCells, h1, hz, h2]
theorem tsk_made (n : Nat) : Tsk (madeCells #[.slice none 0 0, .int .i64 0, .pointer none, .slice none 0 0, .int .i64 0] (n * 5)).toList n 0 := by
  refine ⟨by simp [madeCells], fun j hj => ?_, fun j hj => ?_, fun j hj => ?_, fun j hj => ?_, fun j hj => ?_⟩
  · exact made5 #[.slice none 0 0, .int .i64 0, .pointer none, .slice none 0 0, .int .i64 0] rfl n j 0 hj (by decide)
  · rw [if_neg (by omega)]; exact made5 #[.slice none 0 0, .int .i64 0, .pointer none, .slice none 0 0, .int .i64 0] rfl n j 1 hj (by decide)
  · exact made5 #[.slice none 0 0, .int .i64 0, .pointer none, .slice none 0 0, .int .i64 0] rfl n j 2 hj (by decide)
  · exact made5 #[.slice none 0 0, .int .i64 0, .pointer none, .slice none 0 0, .int .i64 0] rfl n j 3 hj (by decide)
  · exact made5 #[.slice none 0 0, .int .i64 0, .pointer none, .slice none 0 0, .int .i64 0] rfl n j 4 hj (by decide)
theorem Tsk.step {cur : List Value} {n i : Nat} (h : Tsk cur n i) (hi : i < n) (u : Value) (hu : u = .int .i64 (i : Int)) : Tsk (cur.set (i * 5 + 1) u) n (i + 1) := by
  subst hu
  refine ⟨by simp [h.len], fun j hj => ?_, fun j hj => ?_, fun j hj => ?_, fun j hj => ?_, fun j hj => ?_⟩
  · rw [List.getElem?_set, if_neg (by omega)]; exact h.c0 j hj
  · rw [List.getElem?_set]
    by_cases e : j = i
    · subst e; rw [if_pos rfl, if_pos (by rw [h.len]; omega), if_pos (by omega)]
    · rw [if_neg (by omega), h.c1 j hj]
      by_cases e2 : j < i
      · rw [if_pos e2, if_pos (by omega)]
      · rw [if_neg e2, if_neg (by omega)]
  · rw [List.getElem?_set, if_neg (by omega)]; exact h.c2 j hj
  · rw [List.getElem?_set, if_neg (by omega)]; exact h.c3 j hj
  · rw [List.getElem?_set, if_neg (by omega)]; exact h.c4 j hj

theorem info84 : ∃ j, Ybad.prog.info? 84 = some j ∧ j.size ≠ 0 := by
  have h : (Ybad.prog.info? 84).map (·.size) = some 12 := by kernel_rfl
  obtain ⟨j, hj, hs⟩ := Option.map_eq_some_iff.1 h
  exact ⟨j, hj, by rw [hs]; decide⟩
theorem info78 : ∃ j, Ybad.prog.info? 78 = some j ∧ j.size ≠ 0 := by
  have h : (Ybad.prog.info? 78).map (·.size) = some 19 := by kernel_rfl
  obtain ⟨j, hj, hs⟩ := Option.map_eq_some_iff.1 h
  exact ⟨j, hj, by rw [hs]; decide⟩
/-- 'p == q', two waiters. -/
theorem eq_wt_ne {W : World} {a b ta tb : Nat} {ca cb : List Value} (hne : a ≠ b) (ha : Blk W a ta ca) (hb : Blk W b tb cb) : (binOp .eql 26 (.pointer (some ⟨a, 0, none⟩)) (.pointer (some ⟨b, 0, none⟩))).run Ybad.prog W = .ok (.bool false) W := by
  obtain ⟨j, hj, hs⟩ := info84
  have h : ∀ d : Nat, (Op.equalIn (d + 1) 26 (.pointer (some ⟨a, 0, none⟩)) (.pointer (some ⟨b, 0, none⟩))).run Ybad.prog W = .ok false W := fun d => by
    have := run_sameAddr_other (P := Ybad.prog) (w := W) (a := ⟨a, 0, none⟩) (b := ⟨b, 0, none⟩) (by intro h; apply hne; injection h) ha hb
    simp [Op.equalIn, run_underlying Ybad.underlying26, sizeOf, typeInfo, hj, hs, this]
  simp only [binOp]
  simp [Op.equal, Op.maxDepth, h 9999]
theorem neq_wt (a : Addr) (W : World) : (binOp .neq 26 (.pointer (some a)) (.pointer (some a))).run Ybad.prog W = .ok (.bool false) W := by
  obtain ⟨j, hj, _⟩ := info84
  have h : ∀ d : Nat, (Op.equalIn (d + 1) 26 (.pointer (some a)) (.pointer (some a))).run Ybad.prog W = .ok true W := fun d => by
    simp [Op.equalIn, run_underlying Ybad.underlying26, sizeOf, typeInfo, hj, run_sameAddr_same]
  simp only [binOp]
  simp [Op.equal, Op.maxDepth, h 9999]
theorem neq_tx (a : Addr) (W : World) : (binOp .neq 71 (.pointer (some a)) (.pointer (some a))).run Ybad.prog W = .ok (.bool false) W := by
  obtain ⟨j, hj, _⟩ := info78
  have h : ∀ d : Nat, (Op.equalIn (d + 1) 71 (.pointer (some a)) (.pointer (some a))).run Ybad.prog W = .ok true W := fun d => by
    simp [Op.equalIn, run_underlying Ybad.underlying71, sizeOf, typeInfo, hj, run_sameAddr_same]
  simp only [binOp]
  simp [Op.equal, Op.maxDepth, h 9999]

/-- 'string(v)' reads the bytes l. -/
def Reads (w : World) (v : Value) (l : List UInt8) : Prop := (convert 22 9 v).run Ybad.prog w = .ok (.string ⟨l.toArray⟩) w

theorem reads_own {w : World} {B n : Nat} {v : Value} {l : List UInt8} (h : w.ownsRow B 5 1 v n (Lib.byteCells l)) : Reads w v l := by
  have hl : l.length = n := by have := h.1; simpa [Lib.byteCells] using this
  have hstr : strOfNums (l.map fun b => (b.toNat : Int)) = ⟨l.toArray⟩ := by
    simp [strOfNums]
    congr 1
    apply List.ext_getElem <;> simp
  have h' := h
  obtain ⟨_, ⟨rfl, rfl⟩ | ⟨g, c, cur, rfl, _⟩⟩ := h'
  · obtain rfl : l = [] := List.eq_nil_of_length_eq_zero hl
    exact run_convert_bytes_nil w 22 5 Ybad.underlying22 Ybad.underlying5 0 0 9 Ybad.underlying9
  · unfold Reads
    rw [← hstr]
    refine run_convert_bytes_arg w 22 5 Ybad.underlying22 Ybad.underlying5 g 0 n c _ (by simpa using hl) (fun i hi => ?_) 9 Ybad.underlying9
    rw [Nat.zero_add, h.cellAt i (by omega)]
    simp [Lib.byteCells, List.getElem?_eq_getElem (show i < l.length by omega), List.getD]

set_option maxHeartbeats 400000 in
theorem equal_yes (u v : Value) (l : List UInt8) (w : World) (hu : Reads w u l) (hv : Reads w v l) : Calls Ybad.prog 7 #[u, v] w fun e w' => e = .returned (.bool true) ∧ w = w' := by
  unfold Reads at hu hv
  go_enter Ybad.func7, Ybad.ntmps7
  go_wp2
  go_ret
  exact ⟨by simp, rfl⟩

/-- 'append([]byte(nil), p...)', p whatever came in. -/
theorem wpList_app_src {w : World} {ops : Array Oper} {rest : List Oper} {o : Oper} {a : Act} {Q : Exit → Act → World → Prop} (hgd : o.guard = none) (x : Operand) (ho : o.op = .call { callee := .builtin .append, args := #[.const (.slice none 0 0), x], argTypes := #[22, 22] })
    (B : Nat) (ao : Option Addr) (m c : Nat) (bs : List UInt8) (hx : a.eval x = .slice ao m c) (hm : bs.length = m) (hnone : ao = none → m = 0 ∧ c = 0) (hsrc : ∀ ad, ao = some ad → ∀ (j : Nat) (u : Value), (Lib.byteCells bs)[j]? = some u → w.cell? (ad.add j) = some u) (hm2 : m ≤ 1024) (hB : B ≤ w.heap.size)
    (hK : ∀ v' w', w'.ownsRow B 5 1 v' m (Lib.byteCells bs) → w.grownBy w' none → wpList Ybad.prog ops Q rest (a.put o.dst v') w') : wpList Ybad.prog ops Q (o :: rest) a w := by
  obtain ⟨i5, hi5, hy0, hy1, hy2⟩ := info_parts info5
  cases ao with
  | some ad =>
    refine wpList_append_own w hgd _ x 22 ho B 5 i5 (.int .u8 0) 1 1 Ybad.underlying22 hi5 hy0 hy1 hy2 rfl (by decide) (.slice none 0 0) 0 [] rfl (World.ownsRow_nil _ _ _ _) ad m c (Lib.byteCells bs) hx (by simp [Lib.byteCells, hm]) (hsrc ad rfl) (bytes_one _) (by unfold maxLen; omega) (by omega) hB ?_
    intro v' w' h1 h2 _
    exact hK v' w' (by simpa using h1) h2
  | none =>
    obtain ⟨rfl, rfl⟩ := hnone rfl
    obtain rfl : bs = [] := List.eq_nil_of_length_eq_zero hm
    refine wpList_plain hgd fun K hK' => ?_
    have hrun := run_append_owned_none (P := Ybad.prog) w B 22 o.type 5 i5 1 Ybad.underlying22 hi5 _ 0 [] (World.ownsRow_nil w B 5 1)
    have hc : a.eval (.const (.slice none 0 0)) = .slice none 0 0 := rfl
    unfold Oper.wp
    simp [execOp, ho, resolve, invoke, builtin, hc, hx, hrun, Result.andThen]
    exact hK' _ _ (hK _ w (World.ownsRow_nil w B 5 1) (World.grownBy.refl _ _))

/-- A task's cells in a row of tasks. -/
theorem own5_cell {w : World} {B g n cap : Nat} {xs : List Value} (h : w.ownsRow B 28 5 (.slice (some ⟨g, 0, none⟩) n cap) n xs) (i r : Nat) (hi : i < n) (hr : r < 5) {u : Value} (hu : xs[i * 5 + r]? = some u) : w.cell? ⟨g, i * 5 + r, none⟩ = some u := by
  rw [h.cellAt (i * 5 + r) (by omega)]; exact hu
theorem own5_some {w : World} {B n cap : Nat} {ad : Option Addr} {xs : List Value} (h : w.ownsRow B 28 5 (.slice ad n cap) n xs) (h0 : 0 < n) : ∃ g, ad = some ⟨g, 0, none⟩ := by
  obtain ⟨_, ⟨he, hz⟩ | ⟨g, c, cur, he, _⟩⟩ := h
  · omega
  · simp at he; exact ⟨g, he.1⟩
theorem own_later5 {w w1 : World} {B e k n : Nat} {v : Value} {bs : List Value} (h : w.ownsRow B e k v n bs) (hb : Below w.heap.size w w1) : w1.ownsRow B e k v n bs := by
  obtain ⟨hl, h | ⟨g, c, cur, he, hg, hh, hr⟩⟩ := h
  · exact ⟨hl, .inl h⟩
  · exact ⟨hl, .inr ⟨g, c, cur, he, hg, by rw [hb.block g (lt_of_block hh)]; exact hh, hr⟩⟩
end Go.Proofs.YbulkcvviDoor

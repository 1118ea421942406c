/- Blocks of the call's own; make and copy over them; the model's list. -/
import Derived.Test.YbulkcvviRows
import Derived.WalkKit
import Derived.WalkSpells
import Derived.WalkLawsBesides
import Derived.Laws.CopyOwn
namespace Go.Proofs.Ybulkcvvi
open Go.RowKit

/-- Block B holds the cells cs, of type t, none frozen. -/
def Blk (w : World) (B : Nat) (t : TypeId) (cs : List Value) : Prop := w.heap[B]? = some (.cells cs.toArray t (0, 0))

theorem Blk.cell {w : World} {B t : Nat} {cs : List Value} (h : Blk w B t cs) (i : Nat) {v : Value} (hv : cs[i]? = some v) : w.cell? ⟨B, i, none⟩ = some v := by
  unfold Blk at h; simp [World.cell?, h, hv]
theorem Blk.free {w : World} {B t : Nat} {cs : List Value} (h : Blk w B t cs) (i : Nat) : w.frozen? ⟨B, i, none⟩ = false := by
  unfold Blk at h; simp [World.frozen?, h]
theorem Blk.lt {w : World} {B t : Nat} {cs : List Value} (h : Blk w B t cs) : B < w.heap.size := lt_of_block h
theorem Blk.set {w : World} {B t : Nat} {cs : List Value} (h : Blk w B t cs) (i : Nat) (u : Value) : Blk (w.setCell ⟨B, i, none⟩ u) B t (cs.set i u) := by
  unfold Blk at h ⊢
  simp [World.setCell, Array.getElem?_modify, h]
theorem Blk.drewN {w : World} {B t : Nat} {cs : List Value} (h : Blk w B t cs) (n : Nat) : Blk (w.drewN n) B t cs := h
theorem Blk.alloc {w : World} {B t : Nat} {cs : List Value} (h : Blk w B t cs) (o : Obj) : Blk (w.alloc o) B t cs := by
  unfold Blk at *; rw [Below.heap_alloc w o B (lt_of_block h)]; exact h
theorem Blk.new (w : World) (t : TypeId) (cs : Array Value) : Blk (w.alloc (.cells cs t)) w.heap.size t cs.toList := by
  unfold Blk; simpa using heap_alloc_new w (.cells cs t)
theorem Blk.grown {w w' : World} {B t : Nat} {cs : List Value} {row : Option Nat} (h : Blk w B t cs) (hg : w.grownBy w' row) (hne : row ≠ some B) : Blk w' B t cs := by
  unfold Blk at *; rw [hg.block B (lt_of_block h) (fun e => hne e.symm)]; exact h
theorem Blk.below {B0 B t : Nat} {w w' : World} {cs : List Value} (h : Blk w B t cs) (hb : Below B0 w w') (hB : B < B0) : Blk w' B t cs := by
  unfold Blk at *; rw [hb.block B hB]; exact h
theorem Blk.other {w : World} {B t : Nat} {cs : List Value} (h : Blk w B t cs) {a : Addr} (hne : B ≠ a.block) (u : Value) : Blk (w.setCell a u) B t cs := by
  unfold Blk at *; rw [Below.heap_setCell w a u B hne]; exact h
theorem size_setCell (w : World) (a : Addr) (u : Value) : (w.setCell a u).heap.size = w.heap.size := by simp [World.setCell]
theorem size_alloc (w : World) (o : Obj) : (w.alloc o).heap.size = w.heap.size + 1 := by simp

/-- 'make([]T, n)', n a variable: the row's cells, and no more. -/
theorem wpList_make_rows {P : Program} (w : World) {ops : Array Oper} {rest : List Oper} {o : Oper} {a : Act} {Q : Exit → Act → World → Prop}
    (hg : o.guard = none) (l c : Operand) (t : TypeId) (hop : o.op = Op.makeSlice t l c)
    (e : TypeId) (i : TypeInfo) (z : Value) (size : Nat) (h1 : P.underlying t = some (.slice e)) (h2 : P.info? e = some i) (h3 : i.zero = some z) (h4 : i.size = size)
    (kl kc : IntKind) (L C : Int) (n : Nat) (hl : a.eval l = .int kl L) (hc : a.eval c = .int kc C) (hL : L = (n : Int)) (hC : C = (n : Int)) (b2 : i.bytes * n ≤ 281474976710656) (b3 : n ≤ maxLen)
    (hK : ∀ w', Blk w' w.heap.size e (madeCells z.cells (n * size)).toList → w'.heap.size = w.heap.size + 1 → Below w.heap.size w w' → wpList P ops Q rest (a.put o.dst (.slice (some ⟨w.heap.size, 0, none⟩) n n)) w') :
    wpList P ops Q (o :: rest) a w := by
  refine wpList_plain hg fun K hK' => ?_
  have b3' : (n : Int) ≤ 9223372036854775807 := by unfold maxLen at b3; omega
  have b2' : (i.bytes : Int) * (n : Int) ≤ 281474976710656 := by have h := Int.ofNat_le.2 b2; rw [Int.natCast_mul] at h; exact h
  have hrun := run_make (P := P) w t e i z h1 h2 h3 kl kc (n : Int) (n : Int) (by omega) (by omega) b2' b3'
  subst hL
  subst hC
  unfold Oper.wp
  simp [execOp, hop, hl, hc, hrun, Result.andThen]
  refine hK' _ _ (hK _ ?_ (size_alloc _ _) ((Below.refl _ _).alloc (Nat.le_refl _) _))
  rw [h4]; exact Blk.new _ _ _

theorem length_made (z : Array Value) (n : Nat) : (madeCells z n).toList.length = n := by simp [madeCells]

/-- 'copy(dst, src)', both whole rows of the call's own, elements of 'size' cells. -/
theorem wpList_copy_rows {P : Program} {w : World} {ops : Array Oper} {rest : List Oper} {o : Oper} {a : Act} {Q : Exit → Act → World → Prop} (hgd : o.guard = none) (d s : Operand) (dT sT : TypeId)
    (ho : o.op = .call { callee := .builtin .copy, args := #[d, s], argTypes := #[dT, sT] }) (elem : TypeId) (hu : P.underlying dT = some (.slice elem)) (size : Nat) (hsz : (P.info? elem).map (·.size) = some size)
    (g h n : Nat) (hd : a.eval d = .slice (some ⟨g, 0, none⟩) n n) (hs : a.eval s = .slice (some ⟨h, 0, none⟩) n n)
    (cur : List Value) (t : TypeId) (hg : Blk w g t cur) (cs : List Value) (t2 : TypeId) (hh : Blk w h t2 cs) (hn : cs.length = n * size) (hfit : cur.length = n * size) (h1 : ∀ v ∈ cs, v.oneCell' = true)
    (hK : ∀ w', Blk w' g t cs → w'.heap.size = w.heap.size → Below g w w' → (∀ k, k ≠ g → w'.heap[k]? = w.heap[k]?) → wpList P ops Q rest (a.put o.dst (goInt n)) w') :
    wpList P ops Q (o :: rest) a w := by
  refine wpList_plain hgd fun K hK' => ?_
  have hl := run_loadCells_list (P := P) w ⟨h, 0, none⟩ cs (fun j v hj => by
    have e : (⟨h, 0, none⟩ : Addr).add j = ⟨h, j, none⟩ := by unfold Addr.add; split <;> simp_all
    rw [e]; exact hh.cell j hj)
  have hst := run_storeCells_at P g 0 t cs 0 cur.toArray w hg (by simp [hn, hfit]) h1
  have hrow : cur.toArray.toList.take (0 + 0) ++ cs ++ cur.toArray.toList.drop (0 + 0 + cs.length) = cs := by
    have : cur.drop cs.length = [] := List.drop_eq_nil_of_le (by omega)
    simp [this]
  rw [hrow] at hst
  have hrun : (Builtin.copy_ #[dT, sT] o.type #[.slice (some ⟨g, 0, none⟩) n n, .slice (some ⟨h, 0, none⟩) n n]).run P w = .ok (goInt n) (w.setRow g cs.toArray) := by
    cases hq : P.info? elem with
    | none => simp [hq] at hsz
    | some i =>
      have hi : i.size = size := by simpa [hq] using hsz
      simp [Builtin.copy_, run_underlying hu, Builtin.lenOf, Builtin.firstCells, sizeOf, typeInfo, hq, hi, ← hn, hl, hst]
  unfold Oper.wp
  simp [execOp, ho, resolve, invoke, builtin, hd, hs, hrun, Result.andThen]
  refine hK' _ _ (hK _ ?_ (by simp [World.setRow]) ?_ (fun k hk => setRow_other w g k _ hk))
  · exact setRow_heap w g _ _ t _ hg
  · exact ⟨rfl, rfl, rfl, by simp [World.setRow], fun k hk => setRow_other w g k _ (by omega)⟩

/-! The model: which places are listed. -/
def wl (all : Bool) (ex : Nat → Bool) : List (Nat × Bool) → List Nat
  | [] => []
  | (k, s) :: r => if s then wl all ex r else k :: (if !all && ex k then [] else wl all ex r)
theorem wl_le (all : Bool) (ex : Nat → Bool) : ∀ PL : List (Nat × Bool), (wl all ex PL).length ≤ PL.length
  | [] => Nat.le_refl _
  | (k, s) :: r => by
    have ih := wl_le all ex r
    simp only [wl]
    split
    · simp; omega
    · split
      · simp
      · simp; omega

def ptr (T k : Nat) : Value := .pointer (some ⟨T + k, 0, none⟩)
/-- A transaction's nineteen cells. -/
def txnC (x : Bool) (k : Nat) : List Value :=
  [.string ByteArray.empty, .bool false, .bool false, .int .u16 0, .int .u16 0, .int .u32 0, .int .i32 0, .int .i64 0, .pointer none, .pointer none, .pointer none, .pointer none, .int .i32 0, .pointer none, .pointer none,
   .int .i64 3, .int .i64 (if x then 1 else 0), .int .i64 ((k : Int) + 1), .int .i64 0]
end Go.Proofs.Ybulkcvvi

/- The engine while it is made. -/
import Derived.Test.YbulkcvteFmtRec
import Derived.Deep.MidRow
namespace Go.Proofs.YbulkcvteFmt
open Go.RowKit
set_option linter.unusedVariables false

/-- The two hashes that the law makes. -/
structure ArrOk (w wr : World) (C Pn : Nat) (ch pr : List Value) : Prop where
  loC : w.heap.size ≤ C
  loP : w.heap.size ≤ Pn
  bC : Blk wr C 35 ch
  bP : Blk wr Pn 35 pr
  cl : ch.length = 32
  pl : pr.length = 32
  hc : ∃ xs : List Int, ch = xs.map (Value.int .u8)
  hp : ∃ xs : List Int, pr = xs.map (Value.int .u8)
theorem ArrOk.later {w wr w' : World} {C Pn : Nat} {ch pr : List Value} (h : ArrOk w wr C Pn ch pr) (hb : Below wr.heap.size wr w') : ArrOk w w' C Pn ch pr := ⟨h.loC, h.loP, h.bC.later hb, h.bP.later hb, h.cl, h.pl, h.hc, h.hp⟩
theorem one_ints {xs : List Int} {k : IntKind} : ∀ u ∈ xs.map (Value.int k), u.oneCell' = true := fun u hu => by
  obtain ⟨x, _, rfl⟩ := List.mem_map.1 hu
  rfl
theorem ArrOk.c1 {w wr : World} {C Pn : Nat} {ch pr : List Value} (h : ArrOk w wr C Pn ch pr) : ∀ u ∈ ch, u.oneCell' = true := by
  obtain ⟨xs, e⟩ := h.hc
  rw [e]; exact one_ints
theorem ArrOk.p1 {w wr : World} {C Pn : Nat} {ch pr : List Value} (h : ArrOk w wr C Pn ch pr) : ∀ u ∈ pr, u.oneCell' = true := by
  obtain ⟨xs, e⟩ := h.hp
  rw [e]; exact one_ints

/-- The cells of the engine that are looked at. -/
structure EngM (w wr : World) (E : Nat) (k0 f0 s0 p l : Value) (h : Nat) (chE pr : List Value) : Prop where
  lo : w.heap.size ≤ E
  lt : E < wr.heap.size
  th : wr.there E 0 145
  c0 : wr.cell? ⟨E, 0, none⟩ = some k0
  c78 : wr.cell? ⟨E, 78, none⟩ = some f0
  c81 : wr.cell? ⟨E, 81, none⟩ = some s0
  c86 : wr.cell? ⟨E, 86, none⟩ = some p
  c87 : wr.cell? ⟨E, 87, none⟩ = some l
  c94 : wr.cell? ⟨E, 94, none⟩ = some (.int .u64 h)
  chain : wr.rangeAt E 6 chE
  par : wr.rangeAt E 102 pr
theorem EngM.later {w wr w' : World} {E : Nat} {k0 f0 s0 p l : Value} {h : Nat} {chE pr : List Value} (e : EngM w wr E k0 f0 s0 p l h chE pr) (hb : Below wr.heap.size wr w') : EngM w w' E k0 f0 s0 p l h chE pr := by
  have hc : ∀ i, w'.cell? ⟨E, i, none⟩ = wr.cell? ⟨E, i, none⟩ := fun i => hb.cell (p := ⟨E, i, none⟩) e.lt
  have hf : ∀ i, w'.frozen? ⟨E, i, none⟩ = wr.frozen? ⟨E, i, none⟩ := fun i => World.frozen?_of_block (w := wr) (hb.block E e.lt)
  refine ⟨e.lo, Nat.lt_of_lt_of_le e.lt hb.size, fun j hj => ?_, ?_, ?_, ?_, ?_, ?_, ?_, fun j v hv => ?_, fun j v hv => ?_⟩
  · rw [hc, hf]; exact e.th j hj
  all_goals rw [hc]
  · exact e.c0
  · exact e.c78
  · exact e.c81
  · exact e.c86
  · exact e.c87
  · exact e.c94
  · exact e.chain j v hv
  · exact e.par j v hv
theorem set_out (w : World) (E o j : Nat) (vs : List Value) (hj : j < o ∨ o + vs.length ≤ j) : (w.setCells E o vs).cell? ⟨E, j, none⟩ = w.cell? ⟨E, j, none⟩ := World.cell?_setCells_out E vs o w ⟨E, j, none⟩ (fun _ _ => hj)
theorem set_one (w : World) (E o : Nat) (v : Value) : w.setCell ⟨E, o, none⟩ v = w.setCells E o [v] := rfl
theorem size_setCells (E : Nat) : ∀ (vs : List Value) (o : Nat) (w : World), (w.setCells E o vs).heap.size = w.heap.size
  | [], _, _ => rfl
  | v :: r, o, w => by rw [World.setCells, size_setCells E r, size_setCell]
theorem block_setCells (E : Nat) {k : Nat} (hk : k ≠ E) : ∀ (vs : List Value) (o : Nat) (w : World), (w.setCells E o vs).heap[k]? = w.heap[k]?
  | [], _, _ => rfl
  | v :: r, o, w => by rw [World.setCells, block_setCells E hk r, Below.heap_setCell _ _ _ _ hk]
theorem os_setCells (E : Nat) : ∀ (vs : List Value) (o : Nat) (w : World), (w.setCells E o vs).os = w.os ∧ (w.setCells E o vs).tape = w.tape ∧ (w.setCells E o vs).output = w.output
  | [], _, _ => ⟨rfl, rfl, rfl⟩
  | v :: r, o, w => by rw [World.setCells]; exact os_setCells E r _ _
/-- A store into a new block turns nothing that was there before. -/
theorem Below.setCells {B E : Nat} {w w' : World} (h : Below B w w') (hE : B ≤ E) (o : Nat) (vs : List Value) : Below B w (w'.setCells E o vs) := by
  obtain ⟨h1, h2, h3⟩ := os_setCells E vs o w'
  exact ⟨h1.trans h.os, h2.trans h.tape, h3.trans h.output, by rw [size_setCells]; exact h.size, fun k hk => by rw [block_setCells E (by omega)]; exact h.block k hk⟩
theorem Blk.setCells {w : World} {B E t : Nat} {cs : List Value} (h : Blk w B t cs) (hne : B ≠ E) (o : Nat) (vs : List Value) : Blk (w.setCells E o vs) B t cs := by unfold Blk at *; rw [block_setCells E hne]; exact h
theorem ArrOk.setCells {w wr : World} {C Pn E : Nat} {ch pr : List Value} (h : ArrOk w wr C Pn ch pr) (h1 : C ≠ E) (h2 : Pn ≠ E) (o : Nat) (vs : List Value) : ArrOk w (wr.setCells E o vs) C Pn ch pr := ⟨h.loC, h.loP, h.bC.setCells h1 o vs, h.bP.setCells h2 o vs, h.cl, h.pl, h.hc, h.hp⟩
theorem EngM.setS {w wr : World} {E : Nat} {k0 f0 s0 p l : Value} {h : Nat} {chE pr : List Value} (e : EngM w wr E k0 f0 s0 p l h chE pr) (hl : chE.length ≤ 32) (v : Value) : EngM w (wr.setCell ⟨E, 81, none⟩ v) E k0 f0 v p l h chE pr := by
  rw [set_one]
  refine ⟨e.lo, by rw [size_setCells]; exact e.lt, World.there_setCells e.th _ _ _, ?_, ?_, ?_, ?_, ?_, ?_, World.rangeAt_setCells_apart e.chain _ _ _ (.inr (.inl (by omega))), World.rangeAt_setCells_apart e.par _ _ _ (.inr (.inr (by simp)))⟩
  · rw [set_out _ _ _ _ _ (by simp)]; exact e.c0
  · rw [set_out _ _ _ _ _ (by simp)]; exact e.c78
  · have := World.rangeAt_setCells_same wr E 81 [v] (fun j hj => by have := e.th (81 + j) (by simp at hj; omega); simpa using this) 0 v rfl
    simpa using this
  · rw [set_out _ _ _ _ _ (by simp)]; exact e.c86
  · rw [set_out _ _ _ _ _ (by simp)]; exact e.c87
  · rw [set_out _ _ _ _ _ (by simp)]; exact e.c94
theorem EngM.setK {w wr : World} {E : Nat} {k0 f0 s0 p l : Value} {h : Nat} {chE pr : List Value} (e : EngM w wr E k0 f0 s0 p l h chE pr) (v : Value) : EngM w (wr.setCell ⟨E, 0, none⟩ v) E v f0 s0 p l h chE pr := by
  rw [set_one]
  refine ⟨e.lo, by rw [size_setCells]; exact e.lt, World.there_setCells e.th _ _ _, ?_, ?_, ?_, ?_, ?_, ?_, World.rangeAt_setCells_apart e.chain _ _ _ (.inr (.inr (by simp))), World.rangeAt_setCells_apart e.par _ _ _ (.inr (.inr (by simp)))⟩
  · have := World.rangeAt_setCells_same wr E 0 [v] (fun j hj => by have := e.th (0 + j) (by simp at hj; omega); simpa using this) 0 v rfl
    simpa using this
  · rw [set_out _ _ _ _ _ (by simp)]; exact e.c78
  · rw [set_out _ _ _ _ _ (by simp)]; exact e.c81
  · rw [set_out _ _ _ _ _ (by simp)]; exact e.c86
  · rw [set_out _ _ _ _ _ (by simp)]; exact e.c87
  · rw [set_out _ _ _ _ _ (by simp)]; exact e.c94
theorem EngM.setF {w wr : World} {E : Nat} {k0 f0 s0 p l : Value} {h : Nat} {chE pr : List Value} (e : EngM w wr E k0 f0 s0 p l h chE pr) (hl : chE.length ≤ 32) (v : Value) : EngM w (wr.setCell ⟨E, 78, none⟩ v) E k0 v s0 p l h chE pr := by
  rw [set_one]
  refine ⟨e.lo, by rw [size_setCells]; exact e.lt, World.there_setCells e.th _ _ _, ?_, ?_, ?_, ?_, ?_, ?_, World.rangeAt_setCells_apart e.chain _ _ _ (.inr (.inl (by omega))), World.rangeAt_setCells_apart e.par _ _ _ (.inr (.inr (by simp)))⟩
  · rw [set_out _ _ _ _ _ (by simp)]; exact e.c0
  · have := World.rangeAt_setCells_same wr E 78 [v] (fun j hj => by have := e.th (78 + j) (by simp at hj; omega); simpa using this) 0 v rfl
    simpa using this
  · rw [set_out _ _ _ _ _ (by simp)]; exact e.c81
  · rw [set_out _ _ _ _ _ (by simp)]; exact e.c86
  · rw [set_out _ _ _ _ _ (by simp)]; exact e.c87
  · rw [set_out _ _ _ _ _ (by simp)]; exact e.c94
theorem EngM.setC {w wr : World} {E : Nat} {k0 f0 s0 p l : Value} {h : Nat} {chE pr : List Value} (e : EngM w wr E k0 f0 s0 p l h chE pr) (vs : List Value) (hl : vs.length = 32) : EngM w (wr.setCells E 6 vs) E k0 f0 s0 p l h vs pr := by
  refine ⟨e.lo, by rw [size_setCells]; exact e.lt, World.there_setCells e.th _ _ _, ?_, ?_, ?_, ?_, ?_, ?_, World.rangeAt_setCells_same wr E 6 vs (fun j hj => by have := e.th (6 + j) (by omega); simpa using this), World.rangeAt_setCells_apart e.par _ _ _ (.inr (.inr (by omega)))⟩
  · rw [set_out _ _ _ _ _ (by simp)]; exact e.c0
  · rw [set_out _ _ _ _ _ (by simp [hl])]; exact e.c78
  · rw [set_out _ _ _ _ _ (by simp [hl])]; exact e.c81
  · rw [set_out _ _ _ _ _ (by simp [hl])]; exact e.c86
  · rw [set_out _ _ _ _ _ (by simp [hl])]; exact e.c87
  · rw [set_out _ _ _ _ _ (by simp [hl])]; exact e.c94
/-- The two hashes. -/
def chI (cb : Nat) : List Int := (cb : Int) :: List.replicate 31 0
def prI (qb : Nat) : List Int := List.replicate 31 0 ++ [(qb : Int)]
def chL (cb : Nat) : List Value := (chI cb).map (Value.int .u8)
def prL (qb : Nat) : List Value := (prI qb).map (Value.int .u8)
theorem chL_len (cb : Nat) : (chL cb).length = 32 := by simp [chL, chI]
theorem prL_len (qb : Nat) : (prL qb).length = 32 := by simp [prL, prI]
/-- The engine as a literal lays it. -/
theorem eng_ex (h qb : Nat) (pa : Option Addr) (pn pc : Nat) (la : Option Addr) (ln lc : Nat) : ∃ cells : Array Value, Ybaf.prog.built 77 [(10, .int .u64 h), (14, .agg (prL qb).toArray), (4, .slice pa pn pc), (5, .slice la ln lc)] = some cells ∧ cells.size = 145 ∧
    cells[0]? = some (.slice none 0 0) ∧ (∃ f, cells[78]? = some f) ∧ cells[81]? = some (.slice none 0 0) ∧ cells[86]? = some (.slice pa pn pc) ∧ cells[87]? = some (.slice la ln lc) ∧ cells[94]? = some (.int .u64 h) ∧ ∀ (i : Nat) v, (prL qb)[i]? = some v → cells.toList[102 + i]? = some v := by
  have hk : (Ybaf.prog.built 77 [(10, .int .u64 h), (14, .agg (prL qb).toArray), (4, .slice pa pn pc), (5, .slice la ln lc)]).map (fun cs => (cs.size, cs[0]?, (cs[78]?).isSome, cs[81]?, cs[86]?, cs[87]?, cs[94]?, (cs.toList.drop 102).take 32)) = some (145, some (.slice none 0 0), true, some (.slice none 0 0), some (.slice pa pn pc), some (.slice la ln lc), some (.int .u64 h), prL qb) := by kernel_rfl
  cases hc : Ybaf.prog.built 77 [(10, .int .u64 h), (14, .agg (prL qb).toArray), (4, .slice pa pn pc), (5, .slice la ln lc)] with
  | none => rw [hc] at hk; cases hk
  | some cells =>
    rw [hc] at hk
    simp only [Option.map_some, Option.some.injEq, Prod.mk.injEq] at hk
    obtain ⟨h1, h2, h3, h4, h5, h6, h7, h8⟩ := hk
    refine ⟨cells, rfl, h1, h2, Option.isSome_iff_exists.1 h3, h4, h5, h6, h7, fun i v hv => ?_⟩
    rw [← h8, List.getElem?_take] at hv
    split at hv
    · rwa [List.getElem?_drop] at hv
    · cases hv
/-- .. in its new block. -/
theorem EngM.new (w w1 : World) (hlo : w.heap.size ≤ w1.heap.size) (h qb : Nat) (p l : Value) (cells : Array Value) (hn : cells.size = 145) (h0 : cells[0]? = some (.slice none 0 0)) (f : Value) (h78 : cells[78]? = some f) (h81 : cells[81]? = some (.slice none 0 0)) (h86 : cells[86]? = some p) (h87 : cells[87]? = some l) (h94 : cells[94]? = some (.int .u64 h)) (hp : ∀ (i : Nat) v, (prL qb)[i]? = some v → cells.toList[102 + i]? = some v) :
    EngM w (w1.alloc (.cells cells 77)) w1.heap.size (.slice none 0 0) f (.slice none 0 0) p l h [] (prL qb) := by
  have hb := Blk.new w1 77 cells
  have hcell : ∀ (i : Nat) v, cells[i]? = some v → (w1.alloc (.cells cells 77)).cell? ⟨w1.heap.size, i, none⟩ = some v := fun i v hv => hb.cell i (by simpa using hv)
  refine ⟨hlo, hb.lt, fun j hj => ⟨?_, hb.free _⟩, hcell _ _ h0, hcell _ _ h78, hcell _ _ h81, hcell _ _ h86, hcell _ _ h87, hcell _ _ h94, fun j v hv => by simp at hv, fun j v hv => hb.cell _ (hp j v hv)⟩
  rw [hb.cell (0 + j) (v := cells.toList[j]'(by simp; omega)) (by simp)]
  rfl
theorem Keys.setAt {w : World} {g n E i : Nat} {u z : Value} (h : Keys w g n) (hg : g ≠ E) (hz : w.cell? ⟨E, 0, none⟩ = some z) (hz2 : ∀ x, z ≠ .int .u8 x) : Keys (w.setCell ⟨E, i, none⟩ u) g n := by
  have hc : ∀ b j, b ≠ E → (w.setCell ⟨E, i, none⟩ u).cell? ⟨b, j, none⟩ = w.cell? ⟨b, j, none⟩ := fun b j hb => World.cell?_of_block (w := w) (a := ⟨b, j, none⟩) (Below.heap_setCell w ⟨E, i, none⟩ u b hb)
  refine ⟨by rw [size_setCell]; exact h.lt, fun k hk => ?_⟩
  obtain ⟨b, h1, h2, h3⟩ := h.all k hk
  have hb : b ≠ E := by
    rintro rfl
    rw [hz] at h3
    exact hz2 _ (Option.some.inj h3)
  exact ⟨b, by rw [size_setCell]; exact h1, by rw [hc g k hg]; exact h2, by rw [hc b 0 hb]; exact h3⟩
/-- The statement's bytes as numbers. -/
theorem stmt_ints (cb qb hm bv : Nat) : ∃ X : List Int, stmt (chL cb) hm bv (prL qb) = X.map (Value.int .u8) ∧ X.length = 91 := by
  refine ⟨(tagB.data.toList.map fun b => (b.toNat : Int)) ++ chI cb ++ [(hm : Int) / 72057594037927936, (hm : Int) / 281474976710656 % 256, (hm : Int) / 1099511627776 % 256, (hm : Int) / 4294967296 % 256, (hm : Int) / 16777216 % 256, (hm : Int) / 65536 % 256, (hm : Int) / 256 % 256, (hm : Int) % 256] ++ [(bv : Int) / 16777216, (bv : Int) / 65536 % 256, (bv : Int) / 256 % 256, (bv : Int) % 256] ++ prI qb, ?_, ?_⟩
  · simp [stmt, Lib.strCells, be8, be4, chL, prL]
  · simp [chI, prI, tagB]

/-- No cell of a block is an int; its first is a uint64; it has 41 cells. -/
structure NoI (cs : List Value) : Prop where
  n : cs.length = 41
  c0 : ∃ x, cs[0]? = some (.int .u64 x)
  no : ∀ u ∈ cs, ∀ x, u ≠ .int .i64 x
theorem NoI.set {cs : List Value} (h : NoI cs) (i : Nat) (v : Value) (hi : i ≠ 0) (hv : ∀ x, v ≠ .int .i64 x) : NoI (cs.set i v) := by
  refine ⟨by rw [List.length_set]; exact h.n, ?_, fun u hu x => ?_⟩
  · obtain ⟨x, hx⟩ := h.c0
    exact ⟨x, by rw [List.getElem?_set, if_neg hi]; exact hx⟩
  · rcases List.mem_or_eq_of_mem_set hu with h1 | h1
    · exact h.no u h1 x
    · rw [h1]; exact hv x
theorem ne_b {w : World} {b : Nat} {cs : List Value} (h : Blk w b 39 cs) (hn : NoI cs) {k j : Nat} {v : Value} (hc : w.cell? ⟨k, j, none⟩ = some v) (hv : (∃ x, v = .int .i64 x) ∨ (j = 0 ∧ ∀ x, v ≠ .int .u64 x) ∨ 41 ≤ j) : k ≠ b := by
  rintro rfl
  unfold Blk at h
  simp only [World.cell?, h] at hc
  have hc' : cs[j]? = some v := by simpa using hc
  rcases hv with ⟨x, rfl⟩ | ⟨rfl, hx⟩ | hj
  · exact hn.no _ (List.mem_of_getElem? hc') x rfl
  · obtain ⟨x, e⟩ := hn.c0
    rw [e] at hc'
    exact hx x (Option.some.inj hc').symm
  · rw [List.getElem?_eq_none (by rw [hn.n]; exact hj)] at hc'
    cases hc'
theorem Ints.keptB {w w' : World} {b : Nat} {cs : List Value} {s : Value} {L : List Int} (h : Ints w s L) (hB : Blk w b 39 cs) (hn : NoI cs) (hk : KeptG w.heap.size b w w') : Ints w' s L := by
  obtain ⟨a, c, e, h1, h2, h3⟩ := h
  refine ⟨a, c, e, h1, h2, fun i hi => ?_⟩
  obtain ⟨g, o, ea, hlt, hc⟩ := h3 i hi
  exact ⟨g, o, ea, Nat.lt_of_lt_of_le hlt hk.size, by rw [hk.cell (p := ⟨g, o + i, none⟩) hlt (ne_b hB hn hc (.inl ⟨_, rfl⟩))]; exact hc⟩
theorem Laps.keptB {w w' : World} {b : Nat} {cs : List Value} {s : Value} {L : List Lap} (h : Laps w s L) (hB : Blk w b 39 cs) (hn : NoI cs) (hk : KeptG w.heap.size b w w') : Laps w' s L := by
  obtain ⟨a, c, e, h1, h2, h3⟩ := h
  refine ⟨a, c, e, h1, h2, fun i hi => ?_⟩
  obtain ⟨g, o, ea, hlt, k1, k2, k3⟩ := h3 i hi
  have hne := ne_b hB hn k1 (.inl ⟨_, rfl⟩)
  exact ⟨g, o, ea, Nat.lt_of_lt_of_le hlt hk.size, by rw [hk.cell (p := ⟨g, _, none⟩) hlt hne]; exact k1, by rw [hk.cell (p := ⟨g, _, none⟩) hlt hne]; exact k2, by rw [hk.cell (p := ⟨g, _, none⟩) hlt hne]; exact k3⟩
theorem Sigs.keptB {w w' : World} {b : Nat} {cs : List Value} {s : Value} {L : List Sig} (h : Sigs w s L) (hB : Blk w b 39 cs) (hn : NoI cs) (hk : KeptG w.heap.size b w w') : Sigs w' s L := by
  obtain ⟨a, c, e, h3⟩ := h
  refine ⟨a, c, e, fun i hi => ?_⟩
  obtain ⟨g, o, y, ea, hlt, hg, k1, k2, k3⟩ := h3 i hi
  have hne := ne_b hB hn k1 (.inl ⟨_, rfl⟩)
  have hne2 := ne_b hB hn k3 (.inr (.inl ⟨rfl, by simp⟩))
  exact ⟨g, o, y, ea, Nat.lt_of_lt_of_le hlt hk.size, Nat.lt_of_lt_of_le hg hk.size, by rw [hk.cell (p := ⟨g, _, none⟩) hlt hne]; exact k1, by rw [hk.cell (p := ⟨g, _, none⟩) hlt hne]; exact k2, by rw [hk.cell (p := ⟨y, _, none⟩) hg hne2]; exact k3⟩
theorem Bys.keptB {w w' : World} {b : Nat} {cs : List Value} {s : Value} {xs : List Int} (h : Bys w s xs) (h0 : 41 < xs.length) (hB : Blk w b 39 cs) (hn : NoI cs) (hk : KeptG w.heap.size b w w') : Bys w' s xs := by
  obtain ⟨g, o, c, e, h1, h2⟩ := h
  have hne := ne_b hB hn (h2 41 h0) (.inr (.inr (Nat.le_add_left _ _)))
  exact ⟨g, o, c, e, Nat.lt_of_lt_of_le h1 hk.size, fun i hi => by rw [hk.cell (p := ⟨g, _, none⟩) h1 hne]; exact h2 i hi⟩
theorem Keys.keptB {w w' : World} {b g n : Nat} {cs : List Value} (h : Keys w g n) (h0 : 0 < n) (hB : Blk w b 39 cs) (hn : NoI cs) (hk : KeptG w.heap.size b w w') : Keys w' g n := by
  obtain ⟨b0, _, c0, _⟩ := h.all 0 h0
  have hne := ne_b hB hn c0 (.inr (.inl ⟨rfl, by simp⟩))
  refine ⟨Nat.lt_of_lt_of_le h.lt hk.size, fun i hi => ?_⟩
  obtain ⟨y, h1, h2, h3⟩ := h.all i hi
  have hne2 := ne_b hB hn h3 (.inr (.inl ⟨rfl, by simp⟩))
  exact ⟨y, Nat.lt_of_lt_of_le h1 hk.size, by rw [hk.cell (p := ⟨g, _, none⟩) h.lt hne]; exact h2, by rw [hk.cell (p := ⟨y, _, none⟩) h1 hne2]; exact h3⟩
theorem EngR.keptB {w w' : World} {E kb Mb G Wt b : Nat} {cs : List Value} {s p l : Value} {h : Nat} {ch pr : List Value} (r : EngR w E kb Mb G Wt s p l h ch pr) (hB : Blk w b 39 cs) (hn : NoI cs) (hk : KeptG w.heap.size b w w') : EngR w' E kb Mb G Wt s p l h ch pr := by
  have hne := ne_b hB hn r.e.h (.inr (.inr (by decide)))
  have hc : ∀ i, w'.cell? ⟨E, i, none⟩ = w.cell? ⟨E, i, none⟩ := fun i => hk.cell (p := ⟨E, i, none⟩) r.e.lt hne
  exact ⟨⟨Nat.lt_of_lt_of_le r.e.lt hk.size, by rw [hc]; exact r.e.s, by rw [hc]; exact r.e.p, by rw [hc]; exact r.e.l, by rw [hc]; exact r.e.h⟩, by rw [hc]; exact r.keys, by rw [hc]; exact r.ver, fun i v hv => by rw [hc]; exact r.chain i v hv, fun i v hv => by rw [hc]; exact r.par i v hv⟩
theorem Blk.ne {w : World} {b g t t' : Nat} {cs cs' : List Value} (h : Blk w b t cs) (h' : Blk w g t' cs') (ht : t ≠ t') : g ≠ b := by
  rintro rfl
  unfold Blk at h h'
  rw [h] at h'
  simp at h'
  exact ht h'.2
end Go.Proofs.YbulkcvteFmt

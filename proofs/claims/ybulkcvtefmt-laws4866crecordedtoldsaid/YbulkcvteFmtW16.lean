/- The law's walk: the block and its commits. -/
import Derived.Test.YbulkcvteFmtAts
import Derived.Deep.WholeRow
namespace Go.Proofs.YbulkcvteFmt
open Go.RowKit
set_option linter.unusedVariables false

theorem app36G {w0 : World} {ops : Array Oper} {rest : List Oper} {o : Oper} {a : Act} {Q : Exit → Act → World → Prop} (N : Nat) (hN : w0.heap.size = N) (hgd : o.guard = none) (sl x : Operand)
    (ho : o.op = .call { callee := .builtin .append, args := #[sl, x], argTypes := #[36, 36] }) (B : Nat) (v : Value) (L : List (Int × Nat)) (hs : a.eval sl = v) (hown : OwnS w0 B v L) (y : Int) (g : Nat) (hx : a.eval x = .slice (some ⟨N, 0, none⟩) 1 1)
    (hn : L.length ≤ 1048576) (hB : B ≤ N)
    (hK : ∀ v' w', OwnS w' B v' (L ++ [(y, g)]) → Below B w0 w' → (∀ j, j < w0.heap.size → v.ownBlock ≠ some j → w'.heap[j]? = w0.heap[j]?) → wpList Ybaf.prog ops Q rest (a.put o.dst v') w') :
    wpList Ybaf.prog ops Q (o :: rest) a (w0.alloc (.cells #[.int .i64 y, .slice (some ⟨g, 0, none⟩) 1 1] 41)) := by
  subst hN
  obtain ⟨i, hi, hz0, hz1, hz2⟩ := info_parts info41
  refine wpList_append_own _ hgd sl x 36 ho B 41 i _ 2 32 Ybaf.underlying36 hi hz0 hz1 hz2 rfl (by decide) v L.length _ hs (World.ownsRow.alloc hown _) ⟨w0.heap.size, 0, none⟩ 1 1 [.int .i64 y, .slice (some ⟨g, 0, none⟩) 1 1] hx rfl ?_ (fun u hu => by simp at hu; rcases hu with rfl | rfl <;> rfl) (by unfold maxLen; omega) (by omega) (by simp; omega) ?_
  · intro j u hj
    have hadd : (⟨w0.heap.size, 0, none⟩ : Addr).add j = ⟨w0.heap.size, j, none⟩ := by unfold Addr.add; split <;> simp_all
    rw [hadd]
    exact (Blk.new w0 41 #[.int .i64 y, .slice (some ⟨g, 0, none⟩) 1 1]).cell j (by simpa using hj)
  · intro v' w' ho' hg _
    refine hK v' w' ?_ ?_ fun j hj hne => ?_
    · unfold OwnS
      simpa [sigCells] using ho'
    · exact ((Below.refl B w0).alloc hB _).grown hg (by simp; omega) (fun k hk => (World.ownsRow.lt hown k hk).1)
    · rw [hg.block j (by simp; omega) (fun e => hne e.symm)]
      exact ((Below.refl w0.heap.size w0).alloc (Nat.le_refl _) _).block j hj

theorem wpList_build_to {P : Program} {ops : Array Oper} {rest : List Oper} {o : Oper} {a : Act} {w : World} {Q : Exit → Act → World → Prop} (hg : o.guard = none) (t : TypeId) (parts : Array (Nat × Operand)) (ho : o.op = .build t parts) (ps : List (Nat × Value)) (cells : Array Value)
    (hp : (parts.map fun (i, x) => (i, a.eval x)).toList = ps) (h : P.built t ps = some cells) (hK : wpList P ops Q rest (a.put o.dst (.agg cells)) w) : wpList P ops Q (o :: rest) a w := by
  refine wpList_build hg t parts ho (by rw [hp, h]; rfl) ?_
  rw [hp, h]; exact hK
/-- Not an int. -/
def notI : Value → Bool
  | .int .i64 _ => false
  | _ => true
theorem blk_ex (h bv : Nat) (ma : Option Addr) (mn mc : Nat) : ∃ cells : Array Value, Ybaf.prog.built 39 [(0, .int .u64 h), (3, .slice ma mn mc), (6, .int .u32 bv)] = some cells ∧ BlkR cells (.slice ma mn mc) (.slice none 0 0) (.slice none 0 0) (.slice none 0 0) bv ∧ cells.all (·.oneCell') = true ∧ NoI cells.toList := by
  have hk : (Ybaf.prog.built 39 [(0, .int .u64 h), (3, .slice ma mn mc), (6, .int .u32 bv)]).map (fun cs => (cs.toList.all notI, cs[0]?, cs.all (·.oneCell'), cs.size, cs[33]?, cs[34]?, cs[35]?, cs[36]?, cs[37]?, cs[38]?)) = some (true, some (.int .u64 h), true, 41, some (.slice none 0 0), some (.slice ma mn mc), some (.slice none 0 0), some (.slice none 0 0), some (.int .u32 bv), some (.slice none 0 0)) := by kernel_rfl
  cases hc : Ybaf.prog.built 39 [(0, .int .u64 h), (3, .slice ma mn mc), (6, .int .u32 bv)] with
  | none => rw [hc] at hk; cases hk
  | some cells =>
    rw [hc] at hk
    simp only [Option.map_some, Option.some.injEq, Prod.mk.injEq] at hk
    obtain ⟨hn, hz, h0, h1, h2, h3, h4, h5, h6, h7⟩ := hk
    exact ⟨cells, rfl, ⟨h1, h2, h3, h4, h5, h6, h7⟩, h0, by simpa using h1, ⟨_, by simpa using hz⟩, fun u hu x e => by
      have := List.all_eq_true.1 hn u hu
      rw [e] at this
      cases this⟩

/-- The commits laid so far. -/
structure BackSt (w1 wr : World) (cells : Array Value) (x : Value) (L : List (Int × Nat)) : Prop where
  below : Below w1.heap.size w1 wr
  size : w1.heap.size + 1 ≤ wr.heap.size
  blk : Blk wr w1.heap.size 39 (cells.toList.set 36 x)
  own : OwnS wr (w1.heap.size + 1) x L
  at' : ∀ (i : Nat) (hi : i < L.length), 0 ≤ L[i].1 ∧ L[i].1 < 16 ∧ ∃ y : Nat, y < 256 ∧ Blk wr L[i].2 5 [.int .u8 y]
theorem ne_own {w : World} {B g : Nat} {v : Value} {L : List (Int × Nat)} {cs : List Value} {t : TypeId} (h : OwnS w B v L) (hg : Blk w g t cs) (ht : t ≠ 41) : v.ownBlock ≠ some g := by
  intro e
  obtain ⟨_, ⟨rfl, _⟩ | ⟨g', cap, cur, rfl, _, hh, _⟩⟩ := h
  · cases e
  · obtain rfl : g' = g := by simpa [Value.ownBlock] using e
    unfold Blk at hg
    rw [hg] at hh
    simp at hh
    exact ht hh.2
theorem blk5 {w1 wr w5 : World} {cells : Array Value} {x : Value} {L : List (Int × Nat)} {xb : Nat} (h : BackSt w1 wr cells x L) (hf : ∀ j, j < (wr.alloc (.cells #[.int .u8 xb] 5)).heap.size → x.ownBlock ≠ some j → w5.heap[j]? = (wr.alloc (.cells #[.int .u8 xb] 5)).heap[j]?) : Blk w5 w1.heap.size 39 (cells.toList.set 36 x) := by
  have hj : Blk (wr.alloc (.cells #[.int .u8 xb] 5)) w1.heap.size 39 (cells.toList.set 36 x) := h.blk.alloc _
  have h1 := hf _ hj.lt (ne_own (World.ownsRow.alloc h.own _) hj (by decide))
  unfold Blk at *
  rw [h1]; exact hj
/-- The byte that lies in a block. -/
def byteAt (w : World) (g : Nat) : Int := match w.cell? ⟨g, 0, none⟩ with
  | some (.int _ x) => x
  | _ => 0
theorem back_end {w w1 wr : World} {cells : Array Value} {x mi : Value} {L : List (Int × Nat)} {bv : Nat} (h : BackSt w1 wr cells x L) (hlo : w.heap.size ≤ w1.heap.size) (hcr : BlkR cells mi (.slice none 0 0) (.slice none 0 0) (.slice none 0 0) bv) (hL : L.length ≤ 1024) (hnI : NoI cells.toList) :
    ∃ Bs, BackOk w wr w1.heap.size (cells.toList.set 36 x).toArray mi (.slice none 0 0) x (.slice none 0 0) bv Bs := by
  have hn := hcr.n
  have hset : ∀ (i : Nat) (v : Value), i ≠ 36 → cells[i]? = some v → (cells.toList.set 36 x).toArray[i]? = some v := fun i v hi hv => by
    simp only [List.getElem?_toArray, List.getElem?_set, Ne.symm hi, if_false]
    simpa using hv
  have hy : ∀ (i : Nat) (hi : i < L.length), ∃ y : Nat, y < 256 ∧ wr.cell? ⟨L[i].2, 0, none⟩ = some (.int .u8 y) ∧ L[i].2 < wr.heap.size := fun i hi => by
    obtain ⟨_, _, y, h3, h4⟩ := h.at' i hi
    exact ⟨y, h3, h4.cell 0 rfl, h4.lt⟩
  refine ⟨L.map fun c => ⟨c.1, byteAt wr c.2⟩, hlo, by simpa using h.blk, ⟨by simpa using hn, hset 33 _ (by decide) hcr.c33, hset 34 _ (by decide) hcr.c34, hset 35 _ (by decide) hcr.c35, ?_, hset 37 _ (by decide) hcr.c37, hset 38 _ (by decide) hcr.c38⟩, ?_, by simpa using hL, ?_, ?_⟩
  · simp only [List.getElem?_toArray, List.getElem?_set]
    simp [hn]
  · refine h.own.sigs _ (by simp) fun i hi => ?_
    obtain ⟨y, hy1, hy2, hy3⟩ := hy i hi
    have e : sigAt (L.map fun c => (⟨c.1, byteAt wr c.2⟩ : Sig)) i = ⟨L[i].1, byteAt wr L[i].2⟩ := by simp [sigAt, List.getD, hi]
    rw [e]
    refine ⟨rfl, hy3, ?_⟩
    rw [hy2]
    simp [byteAt, hy2]
  · intro c hc
    simp only [List.mem_map] at hc
    obtain ⟨c0, hc0, rfl⟩ := hc
    obtain ⟨i, hi, rfl⟩ := List.getElem_of_mem hc0
    obtain ⟨y, hy1, hy2, hy3⟩ := hy i hi
    obtain ⟨b1, b2, _⟩ := h.at' i hi
    simp only [byteAt, hy2]
    omega
  · obtain ⟨xa, xc, rfl⟩ := h.own.shape
    simpa using hnI.set 36 (.slice xa L.length xc) (by decide) (by simp)
theorem back_next {w1 wr w5 : World} {cells : Array Value} {x v' : Value} {L : List (Int × Nat)} {who : Int} {xb : Nat} (h : BackSt w1 wr cells x L) (hw : 0 ≤ who ∧ who < 16) (hxb : xb < 256)
    (ho : OwnS w5 (w1.heap.size + 1) v' (L ++ [(who, wr.heap.size)])) (hb : Below (w1.heap.size + 1) (wr.alloc (.cells #[.int .u8 xb] 5)) w5) (hf : ∀ j, j < (wr.alloc (.cells #[.int .u8 xb] 5)).heap.size → x.ownBlock ≠ some j → w5.heap[j]? = (wr.alloc (.cells #[.int .u8 xb] 5)).heap[j]?) (hc36 : 36 < cells.size) :
    BackSt w1 (w5.setCell ⟨w1.heap.size, 36, none⟩ v') cells v' (L ++ [(who, wr.heap.size)]) := by
  have hbA : Below w1.heap.size w1 (wr.alloc (.cells #[.int .u8 xb] 5)) := h.below.alloc (Nat.le_of_succ_le h.size) _
  have hne : ∀ (j : Nat) t cs, Blk (wr.alloc (.cells #[.int .u8 xb] 5)) j t cs → t ≠ 41 → Blk w5 j t cs := fun j t cs hj ht => by
    have h1 := hf j hj.lt (ne_own (World.ownsRow.alloc h.own _) hj ht)
    unfold Blk at *
    rw [h1]; exact hj
  have hblk5 : Blk w5 w1.heap.size 39 (cells.toList.set 36 x) := hne _ _ _ (h.blk.alloc _) (by decide)
  have hs5 := hb.size
  refine ⟨?_, ?_, ?_, ?_, ?_⟩
  · have h5 : Below w1.heap.size w1 w5 := hbA.trans (hb.mono (Nat.le_succ _))
    exact ⟨h5.os, h5.tape, h5.output, by rw [size_setCell]; exact h5.size, fun k hk => by rw [Below.heap_setCell _ _ _ _ (by show k ≠ w1.heap.size; omega)]; exact h5.block k hk⟩
  · rw [size_setCell]
    have := h.size
    simp at hs5
    omega
  · have := hblk5.set 36 v'
    rwa [List.set_set] at this
  · exact ownsRow_setCell_below (a := ⟨w1.heap.size, 36, none⟩) ho (Nat.lt_succ_self _) v'
  · intro i hi
    have hsg : ∀ g y, Blk w5 g 5 [.int .u8 y] → Blk (w5.setCell ⟨w1.heap.size, 36, none⟩ v') g 5 [.int .u8 y] := fun g y hg => hg.other (a := ⟨w1.heap.size, 36, none⟩) (fun e => by
      have e : g = w1.heap.size := e
      subst e
      unfold Blk at hg hblk5
      rw [hg] at hblk5
      simp at hblk5) v'
    rcases Nat.lt_or_ge i L.length with hi' | hi'
    · rw [List.getElem_append_left hi']
      obtain ⟨h1, h2, y, h3, h4⟩ := h.at' i hi'
      exact ⟨h1, h2, y, h3, hsg _ _ (hne _ _ _ (h4.alloc _) (by decide))⟩
    · have : i = L.length := by simp at hi; omega
      subst this
      rw [List.getElem_append_right (Nat.le_refl _)]
      simp only [Nat.sub_self, List.getElem_cons_zero]
      exact ⟨hw.1, hw.2, xb, hxb, hsg _ _ (hne _ _ _ (by simpa using Blk.new wr 5 #[.int .u8 (xb : Int)]) (by decide))⟩

set_option maxRecDepth 100000 in
set_option maxHeartbeats 16000000 in
theorem st16 (sm pm hh mm md vv bv cb qb : Nat) (a2 a7 : Option Addr) (l2 c2 l7 c7 : Nat) (r2 r7 : Nat → Nat) (w : World) (hI : Inp w sm pm hh mm md vv bv cb qb a2 a7 l2 l7 r2 r7) (hnext : At18 sm pm hh mm md vv bv cb qb a2 a7 l2 c2 l7 c7 r2 r7 w) : At16 sm pm hh mm md vv bv cb qb a2 a7 l2 c2 l7 c7 r2 r7 w := by
  intro w1 S Pa La sa sc pa pc la lc va vc M ma mc u11 u12 u13 u14 u15 u16 u17 u18 u19 u20 u21 u24 u25 u27 u28 u30 u31 u33 u34 u37 u38 u39 u40 u41 u42 u43 u44 u45 u46 u47 u48 u49 u50 u51 u52 u53 u54 u55 u56 u57 u58 u59 u60 u61 u62 u63 u64 u65 u66 u67 u68 u69 u70 u71 u72 u73 u74 u75 u76 u77 u78 u79 u80 u81 u82 u83 u84 u85 u86 u87 u88 u89 u90 u91 u92 u93 u94 u95 u96 u97 u98 u99 u100 u101 u102 u103 u104 u105 u106 u107 u108 u109 u110 u111 u112 u113 u114 u115 u116 u117 u118 u119 u120 u121 u122 u123 u124 u125 u126 u127 u128 u129 u130 u131 u132 u133 u134 u135 u136 u137 u138 u139 u140 u141 u142 u143 u144 u145 u146 u147 u148 u149 u150 u151 u152 u153 u154 u155 u156 u157 u158 u159 u160 u161 u162 u163 u164 u165 u166 u167 u168 u169 u170 u171 u172 u173 u174 u175 u176 u177 u178 u179 u180 u181 u182 u183 u184 u185 u186 u187 u188 u189 u190 u191 u192 u193 u194 u195 u196 u197 u198 u199 u200 u201 u202 u203 u204 u205 u206 u207 u208 u209 u210 u211 u212 u213 u214 u215 u216 u217 u218 u219 u220 u221 u222 u223 u224 u225 u226 u227 u228 u229 u230 u231 u232 u233 u234 u235 u236 u237 u238 u239 u240 u241 u242 u243 u244 u245 u246 u247 u248 u249 u250 u251 u252 u253 u254 u255 u256 u257 u258 u259 u260 u261 u262 u263 u264 u265 u266 u267 u268 u269 u270 u271 u272 u273 u274 u275 u276 u277 u278 u279 u280 u281 u282 u283 u284 u285 u286 u287 u288 u289 u290 u291 u292 u293 u294 u295 u296 u297 u298 u299 u300 u301 u302 u303 u304 u305 u306 u307 u308 u309 u310 u311 u312 u313 u314 u315 u316 u317 u318 u319 u320 u321 u322 u323 u324 u325 u326 u327 u328 u329 u330 u331 u332 u333 u334 u335 u336 u337 u338 u339 u340 u341 u342 u343 u344 u345 u346 u347 u348 u349 u350 u351 u352 u353 u354 u355 u356 u357 u358 u359 u360 u361 u362 u363 u364 u365 u366 u367 u368 u369 u370 u371 u372 u373 u374 u375 u376 u377 u378 u379 u380 u381 u382 u383 u384 u385 u386 u387 u388 u389 u390 u391 u392 u393 u394 u395 u396 u397 u398 u399 u400 u401 u402 u403 u404 u405 u406 u407 u408 u409 u410 u411 u412 u413 u414 u415 u416 u417 u418 u419 u420 u421 u422 u423 hE hv hm
  have HN := Hid.mk hnext
  have HI := Hid.mk hI
  clear hnext hI
  have HE := Hid.mk hE
  have HV := Hid.mk hv
  have HM := Hid.mk hm
  have H7 := Hid.mk ((HI.out).by7.later hE.below)
  have h7 := (HI.out).kl7
  have hP1 : Pa.length ≤ 16 := by have := hE.ok.lt; have := hE.ok.s1; omega
  have HP := Hid.mk hE.p
  have HPB : Hid (∀ x ∈ Pa, 0 ≤ x ∧ x < 16) := fun x hx => HE.out.ok.bnd x (HE.out.ok.sub x hx)
  clear hE hv hm
  obtain ⟨cells, hcb, hcr, hone, hnoI⟩ := blk_ex hh bv ma M.length mc
  have HNOI := Hid.mk hnoI
  clear hnoI
  have HCB := Hid.mk hcb
  have HCR := Hid.mk hcr
  have hcs : cells.size = 41 := hcr.n
  have hstore : ∀ c : Array Value, c.size = 41 → (storeCells ⟨w1.heap.size, 0, none⟩ cells.toList 0).run Ybaf.prog (w1.alloc (.cells c 39)) = .ok () (w1.alloc (.cells cells 39)) := fun c hc => run_storeCells_new w1 39 c cells (by rw [hcs]; exact size39) (by omega) hone
  clear hcb hcr hone
  refine Rest.step rfl rfl ?_
  intro K hK
  go_wp2_with (refine wpList_build_to rfl 39 #[(0, .tmp 200), (3, .tmp 201), (6, .tmp 202)] rfl [(0, .int .u64 hh), (3, .slice ma M.length mc), (6, .int .u32 bv)] cells ?f0 HCB.out ?_)
  refine hK.out _ _ ?_
  clear hK K
  have hc36 : 36 < cells.size := by omega
  have HST0 : Hid (BackSt w1 (w1.alloc (.cells cells 39)) cells (.slice none 0 0) []) := ⟨(Below.refl _ _).alloc (Nat.le_refl _) _, by simp, by
    have h1 := Blk.new w1 39 cells
    have h2 : cells.toList.set 36 (.slice none 0 0) = cells.toList := by
      apply List.ext_getElem?
      intro i
      rw [List.getElem?_set]
      split
      · rename_i e
        subst e
        rw [if_pos (by simpa using hc36)]
        have := HCR.out.c36
        simpa using this.symm
      · rfl
    rw [h2]; exact h1, World.ownsRow_nil _ _ _ _, fun i hi => absurd hi (Nat.not_lt_zero _)⟩
  generalize hw2 : w1.alloc (.cells cells 39) = w2 at HST0
  have HW2 := Hid.mk hw2
  try rw [hw2]
  clear hw2
  refine Rest.step rfl rfl ?_
  intro K hK
  go_wp2_with fail
  go_loopw [40, 41, 206] (fun _ _ i wr => ∃ (k : Nat) (x : Value) (L : List (Int × Nat)), k ≤ l7 ∧ i = .int .i64 k ∧ L.length = k ∧ BackSt w1 wr cells x L) (fun _ _ i _ => l7 - (intOf i).toNat)
  case atStart => exact ⟨0, _, [], Nat.zero_le _, rfl, rfl, HST0.out⟩
  case round =>
    obtain ⟨k, x, L, hk, rfl, hLk, hst⟩ := hrel
    have hLn : L.length ≤ 1024 := by omega
    have HLk := Hid.mk hLk
    clear hLk
    have HST := Hid.mk hst
    have hsz := hst.size
    obtain ⟨xa, xc, rfl⟩ := hst.own.shape
    have c36 : wr.cell? ⟨w1.heap.size, 36, none⟩ = some (.slice xa L.length xc) := hst.blk.cell 36 (by simp [hc36])
    have f36 := hst.blk.free 36
    have hbl := hst.below
    clear hst
    by_cases hkn : k < l7
    · obtain ⟨gb, go, ga, hgl, hgc⟩ := H7.out.2 k hkn
      rw [← hbl.cell (p := ⟨gb, go + k, none⟩) hgl] at hgc
      subst ga
      have hxb := H7.out.1 k
      generalize r7 k = xb at hgc hxb
      obtain ⟨q, hq, hq16⟩ : ∃ q : Nat, q = xb % 16 ∧ q < 16 := ⟨_, rfl, by omega⟩
      have e1 : (xb : Int) % 16 = (q : Int) := by omega
      have e2 : Int.tmod (xb : Int) 16 = (q : Int) := by rw [Int.tmod_eq_emod_of_nonneg (by omega)]; omega
      clear hq
      by_cases hp0 : 0 < Pa.length
      · have hd0 : decide (0 < (Pa.length : Int)) = true := decide_eq_true (by omega)
        cases hbit : (bits .and .u8 (xb : Int) 16 == 0) with
        | true =>
          obtain ⟨ix, hix, hixl⟩ : ∃ ix : Nat, ix = xb / 32 % Pa.length ∧ ix < Pa.length := ⟨_, rfl, Nat.mod_lt _ hp0⟩
          have e3 : (xb : Int) / 32 % (Pa.length : Int) = (ix : Int) := by rw [hix]; simp
          have e4 : Int.tmod ((xb : Int) / 32) (Pa.length : Int) = (ix : Int) := by rw [Int.tmod_eq_emod_of_nonneg (by omega)]; exact e3
          clear hix
          obtain ⟨eb, eo, ea, hebl, hcell⟩ := (HP.out.later hbl).at' hixl
          subst ea
          obtain ⟨hm0, hm1⟩ := HPB.out _ (getD_mem hixl)
          generalize Pa.getD ix 0 = m at hcell hm0 hm1
          go_wp2_with (at_builtin; refine app36G (w0 := wr.alloc (.cells #[.int .u8 (xb : Int)] 5)) (wr.heap.size + 1) (by simp) rfl _ _ rfl (w1.heap.size + 1) (.slice xa L.length xc) L rfl (World.ownsRow.alloc HST.out.own _) m wr.heap.size rfl (by omega) (by omega) ?_; intro v' w5 ho5 hb5 hf5; have HO5 := Hid.mk ho5; obtain ⟨xa5, xc5, rfl⟩ := ho5.shape; have HNX := Hid.mk (back_next HST.out ⟨by omega, by omega⟩ hxb ho5 hb5 hf5 hc36); simp only [List.length_append, List.length_cons, List.length_nil, Nat.zero_add] at HNX; have c36 : w5.cell? ⟨w1.heap.size, 36, none⟩ = some (.slice xa L.length xc) := (blk5 HST.out hf5).cell 36 (by simp [hc36]); have f36 := (blk5 HST.out hf5).free 36; clear ho5 hb5 hf5)
          go_roundw
          case rel => exact ⟨k + 1, _, L ++ [(m, wr.heap.size)], by omega, by go_num, by rw [List.length_append, List.length_singleton, HLk.out], HNX.out⟩
          case measure => simp [intOf]; omega
        | false =>
          go_wp2_with (at_builtin; refine app36G (w0 := wr.alloc (.cells #[.int .u8 (xb : Int)] 5)) (wr.heap.size + 1) (by simp) rfl _ _ rfl (w1.heap.size + 1) (.slice xa L.length xc) L rfl (World.ownsRow.alloc HST.out.own _) (q : Int) wr.heap.size rfl (by omega) (by omega) ?_; intro v' w5 ho5 hb5 hf5; have HO5 := Hid.mk ho5; obtain ⟨xa5, xc5, rfl⟩ := ho5.shape; have HNX := Hid.mk (back_next HST.out ⟨by omega, by omega⟩ hxb ho5 hb5 hf5 hc36); simp only [List.length_append, List.length_cons, List.length_nil, Nat.zero_add] at HNX; have c36 : w5.cell? ⟨w1.heap.size, 36, none⟩ = some (.slice xa L.length xc) := (blk5 HST.out hf5).cell 36 (by simp [hc36]); have f36 := (blk5 HST.out hf5).free 36; clear ho5 hb5 hf5)
          go_roundw
          case rel => exact ⟨k + 1, _, L ++ [((q : Int), wr.heap.size)], by omega, by go_num, by rw [List.length_append, List.length_singleton, HLk.out], HNX.out⟩
          case measure => simp [intOf]; omega
      · have hd0 : decide (0 < (Pa.length : Int)) = false := decide_eq_false (by omega)
        go_wp2_with (at_builtin; refine app36G (w0 := wr.alloc (.cells #[.int .u8 (xb : Int)] 5)) (wr.heap.size + 1) (by simp) rfl _ _ rfl (w1.heap.size + 1) (.slice xa L.length xc) L rfl (World.ownsRow.alloc HST.out.own _) (q : Int) wr.heap.size rfl (by omega) (by omega) ?_; intro v' w5 ho5 hb5 hf5; have HO5 := Hid.mk ho5; obtain ⟨xa5, xc5, rfl⟩ := ho5.shape; have HNX := Hid.mk (back_next HST.out ⟨by omega, by omega⟩ hxb ho5 hb5 hf5 hc36); simp only [List.length_append, List.length_cons, List.length_nil, Nat.zero_add] at HNX; have c36 : w5.cell? ⟨w1.heap.size, 36, none⟩ = some (.slice xa L.length xc) := (blk5 HST.out hf5).cell 36 (by simp [hc36]); have f36 := (blk5 HST.out hf5).free 36; clear ho5 hb5 hf5)
        go_roundw
        case rel => exact ⟨k + 1, _, L ++ [((q : Int), wr.heap.size)], by omega, by go_num, by rw [List.length_append, List.length_singleton, HLk.out], HNX.out⟩
        case measure => simp [intOf]; omega
    · have hk' : k = l7 := by omega
      have HEX := Hid.mk (back_end HST.out HE.out.below.size HCR.out hLn HNOI.out)
      clear hk'
      go_wp2_with fail
      refine hK.out _ _ ?_
      obtain ⟨Bs, hBk⟩ := HEX.out
      exact HN.out wr S Pa La _ _ _ _ _ _ _ _ M _ _ _ _ _ Bs _ _ _ _ _ _ _ _ _ _ _ _ _ _ _ _ _ _ _ _ _ _ _ _ _ _ _ _ _ _ _ _ _ _ _ _ _ _ _ _ _ _ _ _ _ _ _ _ _ _ _ _ _ _ _ _ _ _ _ _ _ _ _ _ _ _ _ _ _ _ _ _ _ _ _ _ _ _ _ _ _ _ _ _ _ _ _ _ _ _ _ _ _ _ _ _ _ _ _ _ _ _ _ _ _ _ _ _ _ _ _ _ _ _ _ _ _ _ _ _ _ _ _ _ _ _ _ _ _ _ _ _ _ _ _ _ _ _ _ _ _ _ _ _ _ _ _ _ _ _ _ _ _ _ _ _ _ _ _ _ _ _ _ _ _ _ _ _ _ _ _ _ _ _ _ _ _ _ _ _ _ _ _ _ _ _ _ _ _ _ _ _ _ _ _ _ _ _ _ _ _ _ _ _ _ _ _ _ _ _ _ _ _ _ _ _ _ _ _ _ _ _ _ _ _ _ _ _ _ _ _ _ _ _ _ _ _ _ _ _ _ _ _ _ _ _ _ _ _ _ _ _ _ _ _ _ _ _ _ _ _ _ _ _ _ _ _ _ _ _ _ _ _ _ _ _ _ _ _ _ _ _ _ _ _ _ _ _ _ _ _ _ _ _ _ _ _ _ _ _ _ _ _ _ _ _ _ _ _ _ _ _ _ _ _ _ _ _ _ _ _ _ _ _ _ _ _ _ _ _ _ _ _ _ _ _ _ _ _ _ _ _ _ _ _ _ _ _ _ _ _ _ _ _ _ _ _ _ _ _ _ _ _ _ _ _ _ _ _ _ _ _ _ _ _ _ _ _ _ _ _ _ _ _ _ _ _ _ _ _ _ _ _ _ _ _ _ _ _ _ _ _ _ _ _ _ (HE.out.later hbl) (HV.out.later hbl) (HM.out.later hbl) hBk
end Go.Proofs.YbulkcvteFmt

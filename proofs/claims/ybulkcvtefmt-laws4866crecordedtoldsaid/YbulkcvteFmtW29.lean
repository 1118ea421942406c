/- The law's walk: the next turns, where the mode asks for them. -/
import Derived.Test.YbulkcvteFmtAts
namespace Go.Proofs.YbulkcvteFmt
open Go.RowKit
set_option linter.unusedVariables false

theorem Env.keptB {w wr w' : World} {b : Nat} {cs : List Value} {s p l : Value} {S Pa : List Int} {La : List Lap} (h : Env w wr s p l S Pa La) (hB : Blk wr b 39 cs) (hn : NoI cs) (hk : KeptG wr.heap.size b wr w') (hb : Below w.heap.size w w') : Env w w' s p l S Pa La :=
  ⟨hb, h.ok, h.lok, h.s.keptB hB hn hk, h.p.keptB hB hn hk, h.l.keptB hB hn hk⟩
theorem EngOk.keptB {w wr w' : World} {b : Nat} {cs : List Value} {E kb Mb G Wt : Nat} {s p l : Value} {hh bv hm : Nat} {want : Value} {X : List Int} {ch pr : List Value} (h : EngOk w wr E kb Mb G Wt s p l hh bv hm want X ch pr) (hB : Blk wr b 39 cs) (hn : NoI cs) (hk : KeptG wr.heap.size b wr w') (hw : ∀ x, want ≠ .int .u64 x) : EngOk w w' E kb Mb G Wt s p l hh bv hm want X ch pr :=
  ⟨h.eng.keptB hB hn hk, h.loE, h.loG, h.keys.keptB (by decide) hB hn hk, hk.blk h.mb h.mb.lt (hB.ne h.mb (by decide)), hk.blk h.g h.g.lt (hB.ne h.g (by decide)), Nat.lt_of_lt_of_le h.wtl hk.size,
    by rw [hk.cell (p := ⟨Wt, 0, none⟩) h.wtl (ne_b hB hn h.wt (.inr (.inl ⟨rfl, hw⟩)))]; exact h.wt, h.want.keptB (by rw [h.xl]; decide) hB hn hk, h.hX, h.xl, h.cl, h.pl, h.c1, h.p1, h.hm1, h.hm2⟩
theorem back_set {w w1 W : World} {b : Nat} {cs : Array Value} {mi bs r1 r2 : Value} {bv : Nat} {Bs : List Sig} (h : BackOk w w1 b cs mi (.slice none 0 0) bs (.slice none 0 0) bv Bs) (hB : Blk W b 39 ((cs.toList.set 35 r1).set 38 r2)) (hs : Sigs W bs Bs) (h1 : ∀ x, r1 ≠ .int .i64 x) (h2 : ∀ x, r2 ≠ .int .i64 x) :
    BackOk w W b ((cs.toList.set 35 r1).set 38 r2).toArray mi r1 bs r2 bv Bs := by
  have hn := h.cells.n
  have hset : ∀ (i : Nat) (v : Value), i ≠ 35 → i ≠ 38 → cs[i]? = some v → ((cs.toList.set 35 r1).set 38 r2).toArray[i]? = some v := fun i v hi hj hv => by
    simp only [List.getElem?_toArray, List.getElem?_set, Ne.symm hi, Ne.symm hj, if_false]
    simpa using hv
  have hc := h.cells
  refine ⟨h.lo, by simpa using hB, ⟨by simpa using hn, hset 33 _ (by decide) (by decide) hc.c33, hset 34 _ (by decide) (by decide) hc.c34, ?_, hset 36 _ (by decide) (by decide) hc.c36, hset 37 _ (by decide) (by decide) hc.c37, ?_⟩, hs, h.len, h.bnd, ?_⟩
  · simp [hn]
  · simp [hn]
  · simpa using (h.noI.set 35 r1 (by decide) h1).set 38 r2 (by decide) h2
theorem below_keptG {w w1 w2 : World} {G : Nat} (h : Below w.heap.size w w1) (hk : KeptG w1.heap.size G w1 w2) (hG : w.heap.size ≤ G) : Below w.heap.size w w2 :=
  ⟨hk.os.trans h.os, hk.tape.trans h.tape, hk.output.trans h.output, Nat.le_trans h.size hk.size, fun k hk' => by rw [hk.block k (Nat.lt_of_lt_of_le hk' h.size) (by omega)]; exact h.block k hk'⟩

set_option maxRecDepth 100000 in
set_option maxHeartbeats 16000000 in
theorem st29 (sm pm hh mm md vv bv cb qb : Nat) (a2 a7 : Option Addr) (l2 c2 l7 c7 : Nat) (r2 r7 : Nat → Nat) (w : World) (hI : Inp w sm pm hh mm md vv bv cb qb a2 a7 l2 l7 r2 r7) (hnext : At30 sm pm hh mm md vv bv cb qb a2 a7 l2 c2 l7 c7 r2 r7 w) : At29 sm pm hh mm md vv bv cb qb a2 a7 l2 c2 l7 c7 r2 r7 w := by
  intro w1 S Pa La sa sc pa pc la lc va vc M ma mc b cs bs Bs E kb Mb G Wt want X ch pr hm u11 u12 u13 u14 u15 u16 u17 u18 u19 u20 u21 u24 u25 u27 u28 u30 u31 u33 u34 u36 u37 u39 u40 u41 u42 u43 u48 u49 u50 u51 u52 u53 u54 u55 u56 u57 u58 u59 u60 u61 u62 u63 u64 u65 u66 u67 u68 u69 u70 u71 u72 u73 u74 u75 u76 u77 u78 u79 u80 u81 u82 u83 u84 u85 u86 u87 u88 u89 u90 u91 u92 u93 u94 u95 u96 u97 u98 u99 u100 u101 u102 u103 u104 u105 u106 u107 u108 u109 u110 u111 u112 u113 u114 u115 u116 u117 u118 u119 u120 u121 u122 u123 u124 u125 u126 u127 u128 u129 u130 u131 u132 u133 u134 u135 u136 u137 u138 u139 u140 u141 u142 u143 u144 u145 u146 u147 u148 u149 u150 u151 u152 u153 u154 u155 u156 u157 u158 u159 u160 u161 u162 u163 u164 u165 u166 u167 u168 u169 u170 u171 u172 u173 u174 u175 u176 u177 u178 u179 u180 u181 u182 u183 u184 u185 u186 u187 u188 u189 u190 u191 u192 u193 u194 u195 u196 u197 u198 u199 u200 u201 u202 u203 u204 u205 u206 u207 u208 u209 u210 u211 u212 u213 u214 u215 u216 u217 u218 u219 u220 u221 u222 u223 u224 u225 u226 u227 u228 u229 u230 u231 u232 u233 u234 u235 u236 u237 u238 u239 u240 u241 u242 u243 u244 u245 u246 u247 u248 u249 u250 u251 u252 u253 u254 u255 u256 u257 u258 u259 u260 u261 u262 u263 u264 u265 u266 u267 u268 u269 u270 u271 u272 u273 u274 u275 u276 u277 u278 u279 u280 u281 u282 u283 u284 u285 u286 u287 u288 u289 u290 u291 u292 u293 u294 u295 u296 u297 u298 u299 u300 u301 u302 u303 u304 u305 u306 u307 u308 u309 u310 u311 u312 u313 u314 u315 u316 u317 u318 u319 u320 u321 u322 u323 u324 u325 u326 u327 u328 u329 u330 u331 u332 u333 u334 u335 u336 u337 u338 u339 u340 u341 u342 u343 u344 u345 u346 u347 u348 u349 u350 u351 u352 u353 u354 u355 u356 u357 u358 u359 u360 u361 u362 u363 u364 u365 u366 u367 u368 u369 u370 u371 u372 u373 u374 u375 u376 u377 u378 u379 u380 u381 u382 u383 u384 u385 u386 u387 u388 u389 u390 u391 u392 u393 u394 u395 u396 u397 u398 u399 u400 u401 u402 u403 u404 u405 u406 u407 u408 u409 u410 u411 u412 u413 u414 u415 u416 u417 u418 u419 u420 u421 u422 u423 hE hv hm hbk heng
  have HN := Hid.mk hnext
  have HI := Hid.mk hI
  clear hnext hI
  have HE := Hid.mk hE
  have HV := Hid.mk hv
  have HM := Hid.mk hm
  have HBk := Hid.mk hbk
  have HEn := Hid.mk heng
  have hhh := (HI.out).khh
  have hmd := (HI.out).kmd
  have HbS : Hid (∀ x ∈ S, -1048576 ≤ x ∧ x ≤ 1048576) := fun x hx => by have := HE.out.ok.bnd x hx; omega
  have hrow : w1.heap[b]? = some (.cells cs 39 (0, 0)) := by have := hbk.blk; unfold Blk at this; simpa using this
  have HROW := Hid.mk hrow
  have HSZ : Hid ((Ybaf.prog.info? 39).map (·.size) = some cs.size) := by rw [HBk.out.cells.n]; exact size39
  have hblt : b < w1.heap.size := hbk.blk.lt
  obtain ⟨wb, wo, wcp, ewant, _, _⟩ := heng.want
  obtain ⟨ba, bc, ebs, _⟩ := hbk.sigs
  clear hE hv hm hbk heng hrow
  refine Rest.step rfl rfl ?_
  intro K hK
  cases hbit : (bits .and .u8 (md : Int) 2 == 2) with
  | false =>
    go_wp2_with fail
    refine hK.out _ _ ?_
    exact HN.out w1 S Pa La _ _ _ _ _ _ _ _ M _ _ _ _ _ Bs _ _ _ _ _ _ _ _ _ _ _ _ [] [] _ _ _ _ _ _ _ _ _ _ _ _ _ _ _ _ _ _ _ _ _ _ _ _ _ _ _ _ _ _ _ _ _ _ _ _ _ _ _ _ _ _ _ _ _ _ _ _ _ _ _ _ _ _ _ _ _ _ _ _ _ _ _ _ _ _ _ _ _ _ _ _ _ _ _ _ _ _ _ _ _ _ _ _ _ _ _ _ _ _ _ _ _ _ _ _ _ _ _ _ _ _ _ _ _ _ _ _ _ _ _ _ _ _ _ _ _ _ _ _ _ _ _ _ _ _ _ _ _ _ _ _ _ _ _ _ _ _ _ _ _ _ _ _ _ _ _ _ _ _ _ _ _ _ _ _ _ _ _ _ _ _ _ _ _ _ _ _ _ _ _ _ _ _ _ _ _ _ _ _ _ _ _ _ _ _ _ _ _ _ _ _ _ _ _ _ _ _ _ _ _ _ _ _ _ _ _ _ _ _ _ _ _ _ _ _ _ _ _ _ _ _ _ _ _ _ _ _ _ _ _ _ _ _ _ _ _ _ _ _ _ _ _ _ _ _ _ _ _ _ _ _ _ _ _ _ _ _ _ _ _ _ _ _ _ _ _ _ _ _ _ _ _ _ _ _ _ _ _ _ _ _ _ _ _ _ _ _ _ _ _ _ _ _ _ _ _ _ _ _ _ _ _ _ _ _ _ _ _ _ _ _ _ _ _ _ _ _ _ _ _ _ _ _ _ _ _ _ _ _ _ _ _ _ _ _ _ _ _ _ _ _ _ _ _ _ _ _ _ _ _ _ _ _ _ _ _ _ _ _ _ _ _ _ _ _ _ _ _ _ _ _ _ _ _ _ _ _ _ _ _ _ _ _ _ _ _ _ _ _ _ _ _ _ _ _ _ _ _ _ _ _ HE.out HV.out HM.out HBk.out HEn.out ⟨Ints.nil _, Laps.nil _, Nat.zero_le _, Nat.zero_le _⟩
  | true =>
    go_wp2_with (refine wpList_load_row rfl 39 (.tmp 38) rfl b rfl 39 cs (0, 0) _ HROW.out Ybaf.underlying39 rfl HSZ.out ?_)
    refine (turnsAfter10 E (.slice sa S.length sc) (.slice pa Pa.length pc) (.slice la La.length lc) (.slice ma M.length mc) bs S Pa M La Bs cs hh w1 HEn.out.eng.e HE.out.tn HE.out.fit HM.out.m HBk.out.sigs HBk.out.cells.n HBk.out.cells.c33 HBk.out.cells.c34 HBk.out.cells.c36 HM.out.len HBk.out.len HE.out.lok.small HE.out.lok.good HbS.out hhh).mono ?_
    rintro e w2 ⟨q1, q2, rfl, ho1, ho2, hb2⟩
    have HO1 := Hid.mk ho1.ints
    have HO2 := Hid.mk ho2.laps
    obtain ⟨x1, y1, rfl⟩ := ho1.shape
    obtain ⟨x2, y2, rfl⟩ := ho2.shape
    clear ho1 ho2
    generalize hP : passF Pa M (Bs.map Sig.v) S = BP at *
    generalize hL : lapsF S Pa M S La hh = BL at *
    have hPl : BP.length ≤ 1024 := by rw [← hP]; have := passF_len Pa M (Bs.map Sig.v) S; have := HE.out.fit.p1; have := HM.out.len; omega
    have hLl : BL.length ≤ 1024 := by rw [← hL]; exact Nat.le_trans (lapsF_len _ _ _ _ _ _) (Nat.le_trans HE.out.fit.s1 (by decide))
    clear hP hL
    have hB3 : Blk (w2.alloc (.cells #[.slice sa S.length sc, .slice x1 BP.length y1, .slice x2 BL.length y2] 83)) b 39 cs.toList := (HBk.out.blk.later hb2).alloc _
    have hlt2 : b < w2.heap.size := Nat.lt_of_lt_of_le hblt hb2.size
    have c35 : (w2.alloc (.cells #[.slice sa S.length sc, .slice x1 BP.length y1, .slice x2 BL.length y2] 83)).cell? ⟨b, 35, none⟩ = some (.slice none 0 0) := hB3.cell 35 (by simpa using HBk.out.cells.c35)
    have f35 := hB3.free 35
    have hB4 := hB3.set 35 (.slice x1 BP.length y1)
    have c38 := hB4.cell 38 (v := .slice none 0 0) (by rw [List.getElem?_set, if_neg (by decide)]; simpa using HBk.out.cells.c38)
    have f38 := hB4.free 38
    have hB2 := HBk.out.blk.later hb2
    have c38w : w2.cell? ⟨b, 38, none⟩ = some (.slice none 0 0) := hB2.cell 38 (by simpa using HBk.out.cells.c38)
    have f38w := hB2.free 38
    have c38a : (w2.alloc (.cells #[.slice sa S.length sc, .slice x1 BP.length y1, .slice x2 BL.length y2] 83)).cell? ⟨b, 38, none⟩ = some (.slice none 0 0) := hB3.cell 38 (by simpa using HBk.out.cells.c38)
    have f38a := hB3.free 38
    clear hB2
    have c48 : ((w2.alloc (.cells #[.slice sa S.length sc, .slice x1 BP.length y1, .slice x2 BL.length y2] 83)).setCell ⟨b, 35, none⟩ (.slice x1 BP.length y1)).cell? ⟨w2.heap.size, 2, none⟩ = some (.slice x2 BL.length y2) := ((Blk.new w2 83 #[.slice sa S.length sc, .slice x1 BP.length y1, .slice x2 BL.length y2]).other (a := ⟨b, 35, none⟩) (by show w2.heap.size ≠ b; omega) _).cell 2 rfl
    have HB4 := Hid.mk hB4
    have hb3 : Below w1.heap.size w1 (w2.alloc (.cells #[.slice sa S.length sc, .slice x1 BP.length y1, .slice x2 BL.length y2] 83)) := below_alloc hb2 _
    have h1s : Below w2.heap.size w2 (w2.alloc (.cells #[.slice sa S.length sc, .slice x1 BP.length y1, .slice x2 BL.length y2] 83)) := (Below.refl _ _).alloc (Nat.le_refl _) _
    have HB3 := Hid.mk hB3
    clear hB3 hB4
    go_wp2_with fail
    refine hK.out _ _ ?_
    have hB2 := HBk.out.blk.later hb2
    have HB5 := Hid.mk (((hB2.set 35 (.slice x1 BP.length y1)).set 38 (.slice x2 BL.length y2)).alloc (.cells #[.slice sa S.length sc, .slice x1 BP.length y1, .slice x2 BL.length y2] 83))
    have hk4 : KeptG w2.heap.size b w2 ((w2.setCell ⟨b, 35, none⟩ (.slice x1 BP.length y1)).setCell ⟨b, 38, none⟩ (.slice x2 BL.length y2)) := (KeptG.setCell (KeptG.of_below (Below.refl _ _)) _ _).setCell _ _
    have hk3 := hk4.trans ((KeptG.of_below ((Below.refl _ _).alloc (Nat.le_refl _) (.cells #[.slice sa S.length sc, .slice x1 BP.length y1, .slice x2 BL.length y2] 83))).mono (by rw [size_setCell, size_setCell]; exact Nat.le_refl _))
    have hk1 := (KeptG.of_below (G := b) hb2).trans (hk3.mono hb2.size)
    have hn := HBk.out.noI
    have hB1 := HBk.out.blk
    have hbw := below_keptG HE.out.below hk1 HBk.out.lo
    have hO1 := HO1.out.keptB hB2 hn hk3
    have hO2 := HO2.out.keptB hB2 hn hk3
    exact HN.out _ S Pa La _ _ _ _ _ _ _ _ M _ _ b _ _ Bs _ _ _ _ _ _ _ _ _ _ _ _ BP BL _ _ _ _ _ _ _ _ _ _ _ _ _ _ _ _ _ _ _ _ _ _ _ _ _ _ _ _ _ _ _ _ _ _ _ _ _ _ _ _ _ _ _ _ _ _ _ _ _ _ _ _ _ _ _ _ _ _ _ _ _ _ _ _ _ _ _ _ _ _ _ _ _ _ _ _ _ _ _ _ _ _ _ _ _ _ _ _ _ _ _ _ _ _ _ _ _ _ _ _ _ _ _ _ _ _ _ _ _ _ _ _ _ _ _ _ _ _ _ _ _ _ _ _ _ _ _ _ _ _ _ _ _ _ _ _ _ _ _ _ _ _ _ _ _ _ _ _ _ _ _ _ _ _ _ _ _ _ _ _ _ _ _ _ _ _ _ _ _ _ _ _ _ _ _ _ _ _ _ _ _ _ _ _ _ _ _ _ _ _ _ _ _ _ _ _ _ _ _ _ _ _ _ _ _ _ _ _ _ _ _ _ _ _ _ _ _ _ _ _ _ _ _ _ _ _ _ _ _ _ _ _ _ _ _ _ _ _ _ _ _ _ _ _ _ _ _ _ _ _ _ _ _ _ _ _ _ _ _ _ _ _ _ _ _ _ _ _ _ _ _ _ _ _ _ _ _ _ _ _ _ _ _ _ _ _ _ _ _ _ _ _ _ _ _ _ _ _ _ _ _ _ _ _ _ _ _ _ _ _ _ _ _ _ _ _ _ _ _ _ _ _ _ _ _ _ _ _ _ _ _ _ _ _ _ _ _ _ _ _ _ _ _ _ _ _ _ _ _ _ _ _ _ _ _ _ _ _ _ _ _ _ _ _ _ _ _ _ _ _ _ _ _ _ _ _ _ _ _ _ _ _ _ _ _ _ _ _ _ _ _ _ _ _ _ _ _ _ _ _ _ _ (HE.out.keptB hB1 hn hk1 hbw) (HV.out.keptB hB1 hn hk1) ⟨HM.out.m.keptB hB1 hn hk1, HM.out.asc, HM.out.len⟩ (back_set HBk.out HB5.out (HBk.out.sigs.keptB hB1 hn hk1) (by simp) (by simp)) (HEn.out.keptB hB1 hn hk1 (by rw [ewant]; simp)) ⟨hO1, hO2, hPl, hLl⟩
end Go.Proofs.YbulkcvteFmt

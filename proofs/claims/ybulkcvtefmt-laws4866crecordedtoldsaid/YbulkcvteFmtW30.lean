/- The law's walk: what 'recorded' answers. -/
import Derived.Test.YbulkcvteFmtAts
namespace Go.Proofs.YbulkcvteFmt
open Go.RowKit
set_option linter.unusedVariables false

theorem rec_says {S Pa M BP : List Int} {La BL : List Lap} {Bs : List Sig} {h : Nat} {w w' : World} {G : Nat} {e : Ending}
    (H : ∃ n v', n ≤ Bs.length ∧ (∀ j, j < n → preOk Pa La h Bs j = true ∧ sigOk Bs j = true) ∧ Blk w' G 26 [v'] ∧ KeptG w.heap.size G w w' ∧
      ((M ≠ missedOf S Pa h (propIn S Pa h M) ∧ n = 0 ∧ e = .returned (.tuple #[.int .u32 0, .bool false]) ∧ OwnI w' w.heap.size v' []) ∨
       (M = missedOf S Pa h (propIn S Pa h M) ∧ n < Bs.length ∧ preOk Pa La h Bs n = false ∧ e = .returned (.tuple #[.int .u32 0, .bool false]) ∧ OwnI w' w.heap.size v' ((Bs.take n).map Sig.v)) ∨
       (M = missedOf S Pa h (propIn S Pa h M) ∧ n < Bs.length ∧ preOk Pa La h Bs n = true ∧ sigOk Bs n = false ∧ e = .returned (.tuple #[.int .u32 0, .bool false]) ∧ OwnI w' w.heap.size v' ((Bs.take (n + 1)).map Sig.v)) ∨
       (M = missedOf S Pa h (propIn S Pa h M) ∧ n = Bs.length ∧ (∃ r : Bool, e = .returned (.tuple #[.int .u32 (propIn S Pa h M), .bool r]) ∧ (r = true ↔ BP = passF Pa M (Bs.map Sig.v) S ∧ BL = lapsF S Pa M S La h)) ∧ OwnI w' w.heap.size v' (Bs.map Sig.v)))) :
    ∃ (n gv : Nat) (gok : Bool) (gs : Value), e = .returned (.tuple #[.int .u32 gv, .bool gok]) ∧ KeptG w.heap.size G w w' ∧ RecOk w' G gs S Pa M La Bs BP BL h n gv gok := by
  obtain ⟨n, v', hn, hall, hB, hk, h1 | h1 | h1 | h1⟩ := H
  · obtain ⟨a1, a2, a3, a4⟩ := h1
    exact ⟨n, 0, false, v', a3, hk, [], hB, a4.ints, hn, hall, .inl ⟨a1, a2, rfl, rfl, rfl⟩⟩
  · obtain ⟨a1, a2, a3, a4, a5⟩ := h1
    exact ⟨n, 0, false, v', a4, hk, _, hB, a5.ints, hn, hall, .inr (.inl ⟨a1, a2, a3, rfl, rfl, rfl⟩)⟩
  · obtain ⟨a1, a2, a3, a4, a5, a6⟩ := h1
    exact ⟨n, 0, false, v', a5, hk, _, hB, a6.ints, hn, hall, .inr (.inr (.inl ⟨a1, a2, a3, a4, rfl, rfl, rfl⟩))⟩
  · obtain ⟨a1, a2, ⟨r, a3, a4⟩, a5⟩ := h1
    exact ⟨n, _, r, v', a3, hk, _, hB, a5.ints, hn, hall, .inr (.inr (.inr ⟨a1, a2, rfl, a4, rfl⟩))⟩
theorem below_keptG' {w w1 w2 : World} {G : Nat} (h : Below w.heap.size w w1) (hk : KeptG w1.heap.size G w1 w2) (hG : w.heap.size ≤ G) : Below w.heap.size w w2 :=
  ⟨hk.os.trans h.os, hk.tape.trans h.tape, hk.output.trans h.output, Nat.le_trans h.size hk.size, fun k hk' => by rw [hk.block k (Nat.lt_of_lt_of_le hk' h.size) (by omega)]; exact h.block k hk'⟩
theorem Sigs.keptG {w w' : World} {G : Nat} {s : Value} {L : List Sig} (h : Sigs w s L) (hG : Blk w G 26 [.slice none 0 0]) (hk : KeptG w.heap.size G w w') : Sigs w' s L := by
  obtain ⟨a, c, e, h3⟩ := h
  exact ⟨a, c, e, h3.keptG hG hk⟩

set_option maxRecDepth 100000 in
set_option maxHeartbeats 16000000 in
theorem st30 (sm pm hh mm md vv bv cb qb : Nat) (a2 a7 : Option Addr) (l2 c2 l7 c7 : Nat) (r2 r7 : Nat → Nat) (w : World) (hI : Inp w sm pm hh mm md vv bv cb qb a2 a7 l2 l7 r2 r7) (hnext : At32 sm pm hh mm md vv bv cb qb a2 a7 l2 c2 l7 c7 r2 r7 w) : At30 sm pm hh mm md vv bv cb qb a2 a7 l2 c2 l7 c7 r2 r7 w := by
  intro w1 S Pa La sa sc pa pc la lc va vc M ma mc b cs bs Bs E kb Mb G Wt want X ch pr hm0 bp bl BP BL u11 u12 u13 u14 u15 u16 u17 u18 u19 u20 u21 u24 u25 u27 u28 u30 u31 u33 u34 u36 u37 u39 u40 u41 u42 u43 u48 u49 u50 u51 u52 u53 u54 u55 u56 u57 u58 u59 u60 u61 u62 u63 u64 u65 u66 u67 u68 u69 u70 u71 u72 u73 u74 u75 u76 u77 u78 u79 u80 u81 u82 u83 u84 u85 u86 u87 u88 u89 u90 u91 u92 u93 u94 u95 u96 u97 u98 u99 u100 u101 u102 u103 u104 u105 u106 u107 u108 u109 u110 u111 u112 u113 u114 u115 u116 u117 u118 u119 u120 u121 u122 u123 u124 u125 u126 u127 u128 u129 u130 u131 u132 u133 u134 u135 u136 u137 u138 u139 u140 u141 u142 u143 u144 u145 u146 u147 u148 u149 u150 u151 u152 u153 u154 u155 u156 u157 u158 u159 u160 u161 u162 u163 u164 u165 u166 u167 u168 u169 u170 u171 u172 u173 u174 u175 u176 u177 u178 u179 u180 u181 u182 u183 u184 u185 u186 u187 u188 u189 u190 u191 u192 u193 u194 u195 u196 u197 u198 u199 u200 u201 u202 u203 u204 u205 u206 u207 u208 u209 u210 u211 u212 u213 u214 u215 u216 u217 u218 u219 u220 u221 u222 u223 u224 u225 u226 u227 u228 u229 u230 u231 u232 u233 u234 u235 u236 u237 u238 u239 u240 u241 u242 u243 u244 u245 u246 u247 u248 u249 u250 u251 u252 u253 u254 u255 u256 u257 u258 u259 u260 u261 u262 u263 u264 u265 u266 u267 u268 u269 u270 u271 u272 u273 u274 u275 u276 u277 u278 u279 u280 u281 u282 u283 u284 u285 u286 u287 u288 u289 u290 u291 u292 u293 u294 u295 u296 u297 u298 u299 u300 u301 u302 u303 u304 u305 u306 u307 u308 u309 u310 u311 u312 u313 u314 u315 u316 u317 u318 u319 u320 u321 u322 u323 u324 u325 u326 u327 u328 u329 u330 u331 u332 u333 u334 u335 u336 u337 u338 u339 u340 u341 u342 u343 u344 u345 u346 u347 u348 u349 u350 u351 u352 u353 u354 u355 u356 u357 u358 u359 u360 u361 u362 u363 u364 u365 u366 u367 u368 u369 u370 u371 u372 u373 u374 u375 u376 u377 u378 u379 u380 u381 u382 u383 u384 u385 u386 u387 u388 u389 u390 u391 u392 u393 u394 u395 u396 u397 u398 u399 u400 u401 u402 u403 u404 u405 u406 u407 u408 u409 u410 u411 u412 u413 u414 u415 u416 u417 u418 u419 u420 u421 u422 u423 hE hv hm hbk heng hpast
  have HN := Hid.mk hnext
  have HI := Hid.mk hI
  clear hnext hI
  have HE := Hid.mk hE
  have HV := Hid.mk hv
  have HM := Hid.mk hm
  have HBk := Hid.mk hbk
  have HEn := Hid.mk heng
  have HPs := Hid.mk hpast
  have hhh := (HI.out).khh
  have hbv := (HI.out).kbv
  have HbS : Hid (∀ x ∈ S, -1048576 ≤ x ∧ x ≤ 1048576) := fun x hx => by have := HE.out.ok.bnd x hx; omega
  have hrow : w1.heap[b]? = some (.cells cs 39 (0, 0)) := by have := hbk.blk; unfold Blk at this; simpa using this
  have HROW := Hid.mk hrow
  have HSZ : Hid ((Ybaf.prog.info? 39).map (·.size) = some cs.size) := by rw [HBk.out.cells.n]; exact size39
  have HTAG : Hid (∀ W, Below w1.heap.size w1 W → W.cell? ⟨0, 13, none⟩ = some (.string tagB)) := fun W hW => by
    rw [(below_trans HE.out.below hW).cell (p := ⟨0, 13, none⟩) (HI.out).pos]; exact (HI.out).tag
  have hcall := (recorded11 E kb Mb G Wt (.slice sa S.length sc) (.slice pa Pa.length pc) (.slice la La.length lc) (.slice ma M.length mc) bp bs bl want S Pa M BP X La BL Bs hh bv hm0 ch pr cs w1 heng.eng hbk.cells hE.tn hE.fit hm.m hm.len hhh hbv heng.cl heng.pl heng.c1 heng.p1 HTAG.out heng.hm1 heng.hm2 heng.hX heng.xl hbk.sigs hbk.len hbk.bnd heng.keys heng.mb heng.g heng.wt heng.wtl heng.want hpast.p hpast.l hpast.pl hpast.ll hE.lok.small hE.lok.good HbS.out).mono (fun e w' h => rec_says h)
  have HC := Hid.mk hcall
  clear hE hv hm hbk heng hpast hrow hcall
  refine Rest.step rfl rfl ?_
  intro K hK
  go_wp2_with (first
      | (refine wpList_load_row rfl 39 (.tmp 38) rfl b rfl 39 cs (0, 0) _ HROW.out Ybaf.underlying39 rfl HSZ.out ?_)
      | (go_at_call 11; refine HC.out.mono ?_; rintro e w2 ⟨n, gv, gok, gs, rfl, hk, hrec⟩; have HRC := Hid.mk hrec; clear hrec))
  refine hK.out _ _ ?_
  clear hK K
  refine Rest.step rfl rfl ?_
  intro K hK
  go_wp2_with fail
  refine hK.out _ _ ?_
  have hG := HEn.out.g
  have hbw := below_keptG' HE.out.below hk HEn.out.loG
  have hBk2 : BackOk w w2 b cs (.slice ma M.length mc) bp bs bl bv Bs := ⟨HBk.out.lo, hk.blk HBk.out.blk HBk.out.blk.lt (hG.ne HBk.out.blk (by decide)), HBk.out.cells, HBk.out.sigs.keptG hG hk, HBk.out.len, HBk.out.bnd, HBk.out.noI⟩
  exact HN.out w2 S Pa La _ _ _ _ _ _ _ _ M _ _ b _ _ Bs E kb Mb G Wt want X ch pr hm0 bp bl BP BL gv gok gs n _ _ _ _ _ _ _ _ _ _ _ _ _ _ _ _ _ _ _ _ _ _ _ _ _ _ _ _ _ _ _ _ _ _ _ _ _ _ _ _ _ _ _ _ _ _ _ _ _ _ _ _ _ _ _ _ _ _ _ _ _ _ _ _ _ _ _ _ _ _ _ _ _ _ _ _ _ _ _ _ _ _ _ _ _ _ _ _ _ _ _ _ _ _ _ _ _ _ _ _ _ _ _ _ _ _ _ _ _ _ _ _ _ _ _ _ _ _ _ _ _ _ _ _ _ _ _ _ _ _ _ _ _ _ _ _ _ _ _ _ _ _ _ _ _ _ _ _ _ _ _ _ _ _ _ _ _ _ _ _ _ _ _ _ _ _ _ _ _ _ _ _ _ _ _ _ _ _ _ _ _ _ _ _ _ _ _ _ _ _ _ _ _ _ _ _ _ _ _ _ _ _ _ _ _ _ _ _ _ _ _ _ _ _ _ _ _ _ _ _ _ _ _ _ _ _ _ _ _ _ _ _ _ _ _ _ _ _ _ _ _ _ _ _ _ _ _ _ _ _ _ _ _ _ _ _ _ _ _ _ _ _ _ _ _ _ _ _ _ _ _ _ _ _ _ _ _ _ _ _ _ _ _ _ _ _ _ _ _ _ _ _ _ _ _ _ _ _ _ _ _ _ _ _ _ _ _ _ _ _ _ _ _ _ _ _ _ _ _ _ _ _ _ _ _ _ _ _ _ _ _ _ _ _ _ _ _ _ _ _ _ _ _ _ _ _ _ _ _ _ _ _ _ _ _ _ _ _ _ _ _ _ _ _ _ _ _ _ _ _ _ _ _ _ _ _ _ _ _ _ _ _ _ _ _ _ _ _ _ _ _ _ _ _ _ _ _ _ _ ⟨hbw, HE.out.ok, HE.out.lok, HE.out.s.keptG hG hk, HE.out.p.keptG hG hk, HE.out.l.keptG hG hk⟩ (HV.out.keptG hG hk) ⟨HM.out.m.keptG hG hk, HM.out.asc, HM.out.len⟩ hBk2 ⟨(HEn.out.eng.keptG hG hk).e, HEn.out.loE, HEn.out.loG, hk.blk HEn.out.mb HEn.out.mb.lt (hG.ne HEn.out.mb (by decide))⟩ ⟨HPs.out.p.keptG hG hk, HPs.out.l.keptG hG hk, HPs.out.pl, HPs.out.ll⟩ HRC.out
end Go.Proofs.YbulkcvteFmt

/- The law's walk: the end. -/
import Derived.Test.YbulkcvteFmtAts
namespace Go.Proofs.YbulkcvteFmt
open Go.RowKit
set_option linter.unusedVariables false

theorem Rest.last {Q : Post} {a : Act} {w : World} (h : Q .ret a w) : Rest 41 Q a w := by
  unfold Rest
  rw [show spineFrom 41 (Ybaf.f3.body.getD .skip) = Code.ret from rfl]
  exact wp_ret h
theorem says_eq {S Pa M : List Int} {La : List Lap} {Bs : List Sig} {BP : List Int} {BL : List Lap} {h n gv : Nat} {gok ps : Bool} {L ys : List Int} (hr : RecSays S Pa M La Bs BP BL h n gv gok L) (hc : CallsOk S Pa M La Bs h n ps ys) :
    L = ys ∧ (ps = false → gv = 0 ∧ gok = false) ∧ (ps = true → gv = propIn S Pa h M ∧ (gok = true ↔ BP = passF Pa M (Bs.map Sig.v) S ∧ BL = lapsF S Pa M S La h)) := by
  obtain ⟨h1, h2, h3⟩ := hr
  rcases hc with ⟨c1, c2, c3⟩ | ⟨c1, c2, c3, c4, c5⟩ | ⟨c1, c2, c3, c4, c5, c6⟩ | ⟨c1, c2, c3, c4⟩
  · rcases h3 with h3 | h3 | h3 | h3
    · obtain ⟨_, _, a3, a4, a5⟩ := h3
      exact ⟨by rw [a5, c3], fun _ => ⟨a3, a4⟩, fun e => by rw [c2] at e; cases e⟩
    all_goals exact absurd h3.1 c1
  · rcases h3 with h3 | h3 | h3 | h3
    · exact absurd c1 h3.1
    · obtain ⟨_, _, _, a4, a5, a6⟩ := h3
      exact ⟨by rw [a6, c5], fun _ => ⟨a4, a5⟩, fun e => by rw [c4] at e; cases e⟩
    · rw [h3.2.2.1] at c3; cases c3
    · have := h3.2.1; omega
  · rcases h3 with h3 | h3 | h3 | h3
    · exact absurd c1 h3.1
    · rw [h3.2.2.1] at c3; cases c3
    · obtain ⟨_, _, _, _, a5, a6, a7⟩ := h3
      exact ⟨by rw [a7, c6], fun _ => ⟨a5, a6⟩, fun e => by rw [c5] at e; cases e⟩
    · have := h3.2.1; omega
  · rcases h3 with h3 | h3 | h3 | h3
    · exact absurd c1 h3.1
    · have := h3.2.1; omega
    · have := h3.2.1; omega
    · obtain ⟨_, _, a3, a4, a5⟩ := h3
      exact ⟨by rw [a5, c4], fun e => by (rw [c3] at e; cases e), fun _ => ⟨a3, a4⟩⟩

set_option maxRecDepth 100000 in
set_option maxHeartbeats 16000000 in
theorem st37 (sm pm hh mm md vv bv cb qb : Nat) (a2 a7 : Option Addr) (l2 c2 l7 c7 : Nat) (r2 r7 : Nat → Nat) (w : World) (hI : Inp w sm pm hh mm md vv bv cb qb a2 a7 l2 l7 r2 r7) : At37 sm pm hh mm md vv bv cb qb a2 a7 l2 c2 l7 c7 r2 r7 w := by
  intro w1 S Pa La sa sc pa pc la lc va vc M ma mc b cs bs Bs E kb Mb G Wt want X ch pr hm0 bp bl BP BL gv gok gs n ev ps ya yc ys u11 u12 u13 u14 u15 u16 u17 u18 u19 u20 u21 u24 u25 u27 u28 u30 u31 u33 u34 u36 u37 u39 u40 u41 u42 u43 u48 u52 u55 u56 u57 u58 u59 u60 u61 u62 u63 u64 u65 u66 u67 u68 u69 u70 u71 u72 u73 u74 u75 u76 u77 u78 u79 u80 u81 u82 u83 u84 u85 u86 u87 u88 u89 u90 u91 u92 u93 u94 u95 u96 u97 u98 u99 u100 u101 u102 u103 u104 u105 u106 u107 u108 u109 u110 u111 u112 u113 u114 u115 u116 u117 u118 u119 u120 u121 u122 u123 u124 u125 u126 u127 u128 u129 u130 u131 u132 u133 u134 u135 u136 u137 u138 u139 u140 u141 u142 u143 u144 u145 u146 u147 u148 u149 u150 u151 u152 u153 u154 u155 u156 u157 u158 u159 u160 u161 u162 u163 u164 u165 u166 u167 u168 u169 u170 u171 u172 u173 u174 u175 u176 u177 u178 u179 u180 u181 u182 u183 u184 u185 u186 u187 u188 u189 u190 u191 u192 u193 u194 u195 u196 u197 u198 u199 u200 u201 u202 u203 u204 u205 u206 u207 u208 u209 u210 u211 u212 u213 u214 u215 u216 u217 u218 u219 u220 u221 u222 u223 u224 u225 u226 u227 u228 u229 u230 u231 u232 u233 u234 u235 u236 u237 u238 u239 u240 u241 u242 u243 u244 u245 u246 u247 u248 u249 u250 u251 u252 u253 u254 u255 u256 u257 u258 u259 u260 u261 u262 u263 u264 u265 u266 u267 u268 u269 u270 u271 u272 u273 u274 u275 u276 u277 u278 u279 u280 u281 u282 u283 u284 u285 u286 u287 u288 u289 u290 u291 u292 u293 u294 u295 u296 u297 u298 u299 u300 u301 u302 u303 u304 u305 u306 u307 u308 u309 u310 u311 u312 u313 u314 u315 u316 u317 u318 u319 u320 u321 u322 u323 u324 u325 u326 u327 u328 u329 u330 u331 u332 u333 u334 u335 u336 u337 u338 u339 u340 u341 u342 u343 u344 u345 u346 u347 u348 u349 u350 u351 u352 u353 u354 u355 u356 u357 u358 u359 u360 u361 u362 u363 u364 u365 u366 u367 u368 u369 u370 u371 u372 u373 u374 u375 u376 u377 u378 u379 u380 u381 u382 u383 u384 u385 u386 u387 u388 u389 u390 u391 u392 u393 u394 u395 u396 u397 u398 u399 u400 u401 u402 u403 u404 u405 u406 u407 u408 u409 u410 u411 u412 u413 u414 u415 u416 u417 u418 u419 u420 u421 u422 u423 hE hv hm hbk heng hpast hrec hev hys hcalls
  have HI := Hid.mk hI
  clear hI
  obtain ⟨L, hBG, hL, hsays⟩ := hrec
  obtain ⟨hLy, hfalse, htrue⟩ := says_eq hsays hcalls
  subst hLy
  have HF := Hid.mk hfalse
  have HTr := Hid.mk htrue
  have HE := Hid.mk hE
  have HM := Hid.mk hm
  have HBk := Hid.mk hbk
  have HEn := Hid.mk heng
  have HPs := Hid.mk hpast
  have HEV := Hid.mk hev
  have hhh := (HI.out).khh
  have hlive := hE.live
  have hM16 := hm.len
  have hev16 : ev ≤ 16 := by rw [hev]; exact Nat.le_trans (propGo_le _ _ _ _ _ _) (by omega)
  have hLn : L.length ≤ 1024 := by
    obtain ⟨h1, _, h3⟩ := hsays
    have := hbk.len
    rcases h3 with h3 | h3 | h3 | h3
    · rw [h3.2.2.2.2]; simp
    · rw [h3.2.2.2.2.2]; simp; omega
    · rw [h3.2.2.2.2.2.2]; simp; omega
    · rw [h3.2.2.2.2]; simp; omega
  have HL := Hid.mk hL
  have HY := Hid.mk hys.ints
  have m0 := heng.mb.cell 0 rfl
  have g0 := hBG.cell 0 rfl
  obtain ⟨ga, gc, egs, _, _, _⟩ := hL
  subst egs
  clear hE hv hm hbk heng hpast hBG hsays hcalls hfalse htrue hys hev hlive
  refine Rest.step rfl rfl ?_
  intro K hK
  go_wp2_with (go_at_call 14; refine (equal14 _ _ L L _ HL.out HY.out (by omega) (by omega)).mono ?_; rw [decide_eq_true rfl]; rintro e w2 ⟨rfl, hb2⟩)
  refine hK.out _ _ ?_
  clear hK K m0 g0 HL HY
  cases ps with
  | false =>
    obtain ⟨h1, h2⟩ := HF.out rfl
    subst h1
    subst h2
    refine Rest.step rfl rfl ?_
    intro K hK
    go_wp2
    go_ret
    exact ⟨rfl, below_trans HE.out.below hb2⟩
  | true =>
    obtain ⟨h1, h2⟩ := HTr.out rfl
    rw [← HEV.out] at h1
    subst h1
    have HIff := Hid.mk h2
    clear h2
    refine Rest.step rfl rfl ?_
    intro K hK
    go_wp2_with fail
    refine hK.out _ _ ?_
    clear hK K
    have hrow : w2.heap[b]? = some (.cells cs 39 (0, 0)) := by have := HBk.out.blk.later hb2; unfold Blk at this; simpa using this
    have HROW := Hid.mk hrow
    have HSZ : Hid ((Ybaf.prog.info? 39).map (·.size) = some cs.size) := by rw [HBk.out.cells.n]; exact size39
    have HbS : Hid (∀ x ∈ S, -1048576 ≤ x ∧ x ≤ 1048576) := fun x hx => by have := HE.out.ok.bnd x hx; omega
    clear hrow
    refine Rest.step rfl rfl ?_
    intro K hK
    go_wp2_with (refine wpList_load_row rfl 39 (.tmp 38) rfl b rfl 39 cs (0, 0) _ HROW.out Ybaf.underlying39 rfl HSZ.out ?_)
    refine (turnsAfter10 E (.slice sa S.length sc) (.slice pa Pa.length pc) (.slice la La.length lc) (.slice ma M.length mc) bs S Pa M La Bs cs hh w2 (HEn.out.eng.later hb2) (HE.out.tn.later hb2) HE.out.fit (HM.out.m.later hb2) (HBk.out.sigs.later hb2) HBk.out.cells.n HBk.out.cells.c33 HBk.out.cells.c34 HBk.out.cells.c36 HM.out.len HBk.out.len HE.out.lok.small HE.out.lok.good HbS.out hhh).mono ?_
    rintro e w3 ⟨q1, q2, rfl, ho1, ho2, hb3⟩
    have HO1 := Hid.mk ho1.ints
    have HO2 := Hid.mk ho2.laps
    obtain ⟨x1, y1, rfl⟩ := ho1.shape
    obtain ⟨x2, y2, rfl⟩ := ho2.shape
    clear ho1 ho2
    have hPl : (passF Pa M (Bs.map Sig.v) S).length ≤ 1024 := by have := passF_len Pa M (Bs.map Sig.v) S; have := HE.out.fit.p1; have := HM.out.len; omega
    have hLl : (lapsF S Pa M S La hh).length ≤ 1024 := Nat.le_trans (lapsF_len _ _ _ _ _ _) (Nat.le_trans HE.out.fit.s1 (by decide))
    generalize passF Pa M (Bs.map Sig.v) S = PF at *
    generalize lapsF S Pa M S La hh = LF at *
    go_wp2_with fail
    refine hK.out _ _ ?_
    clear hK K
    have hBT : Blk (w3.alloc (.cells #[.slice sa S.length sc, .slice x1 PF.length y1, .slice x2 LF.length y2] 83)) w3.heap.size 83 [.slice sa S.length sc, .slice x1 PF.length y1, .slice x2 LF.length y2] := Blk.new w3 83 #[.slice sa S.length sc, .slice x1 PF.length y1, .slice x2 LF.length y2]
    have hb4 : Below w3.heap.size w3 (w3.alloc (.cells #[.slice sa S.length sc, .slice x1 PF.length y1, .slice x2 LF.length y2] 83)) := (Below.refl _ _).alloc (Nat.le_refl _) _
    generalize w3.alloc (.cells #[.slice sa S.length sc, .slice x1 PF.length y1, .slice x2 LF.length y2] 83) = w4 at *
    have hb14 : Below w1.heap.size w1 w4 := below_trans hb2 (below_trans hb3 hb4)
    have HP4 := Hid.mk (HPs.out.later hb14)
    have HBk4 := Hid.mk (HBk.out.later hb14)
    have HBT := Hid.mk hBT
    have HO14 := Hid.mk (HO1.out.later hb4)
    have HO24 := Hid.mk (HO2.out.later hb4)
    obtain ⟨pa5, pc5, ebp, _, _, _⟩ := HPs.out.p
    subst ebp
    obtain ⟨la5, lc5, ebl, _, _, _⟩ := HPs.out.l
    subst ebl
    have c35 : w4.cell? ⟨b, 35, none⟩ = some (.slice pa5 BP.length pc5) := HBk4.out.blk.cell 35 (by simpa using HBk.out.cells.c35)
    have t1 := hBT.cell 1 rfl
    have hpl := HP4.out.pl
    have hll := HP4.out.ll
    have hkw : IntKind.u32.wrap (gv : Int) = (gv : Int) := by simp [IntKind.wrap, IntKind.signed, IntKind.bits]; omega
    clear hBT
    refine Rest.step rfl rfl ?_
    intro K hK
    by_cases hP : BP = PF
    · have HD : Hid (decide (BP = PF) = true) := decide_eq_true hP
      have HPq := Hid.mk hP
      clear hP
      go_wp2_with (first
        | (go_at_call 13; refine (equal13 _ _ BP PF _ HP4.out.p HO14.out (by omega) (by omega)).mono ?_; rw [HD.out]; rintro e w5 ⟨rfl, hb5⟩; have c38 : w5.cell? ⟨b, 38, none⟩ = some (.slice la5 BL.length lc5) := (HBk4.out.blk.later hb5).cell 38 (by simpa using HBk.out.cells.c38); have t2 := (HBT.out.later hb5).cell 2 rfl)
        | (go_at_call 15; refine (equal15 _ _ BL LF _ (HP4.out.l.later hb5) (HO24.out.later hb5) (by omega) (by omega)).mono ?_; rintro e w6 ⟨r, rfl, hr, hb6⟩; have hgr : gok = r := (by have h1 := HIff.out; rw [Bool.eq_iff_iff, h1, hr]; exact ⟨fun e => e.2, fun e => ⟨HPq.out, e⟩⟩); subst hgr))
      refine hK.out _ _ (Rest.last ?_)
      go_ret
      exact ⟨rfl, below_trans HE.out.below (below_trans hb14 (below_trans hb5 hb6))⟩
    · have HD : Hid (decide (BP = PF) = false) := decide_eq_false hP
      have hgf : gok = false := by
        cases hg : gok with
        | false => rfl
        | true => exact absurd (HIff.out.1 hg).1 hP
      subst hgf
      clear hP
      go_wp2_with (first
        | (go_at_call 13; refine (equal13 _ _ BP PF _ HP4.out.p HO14.out (by omega) (by omega)).mono ?_; rw [HD.out]; rintro e w5 ⟨rfl, hb5⟩))
      refine hK.out _ _ (Rest.last ?_)
      go_ret
      exact ⟨rfl, below_trans HE.out.below (below_trans hb14 hb5)⟩
end Go.Proofs.YbulkcvteFmt

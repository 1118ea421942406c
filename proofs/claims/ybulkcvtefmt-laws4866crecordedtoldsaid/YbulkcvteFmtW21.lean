/- The law's walk: the engine. -/
import Derived.Test.YbulkcvteFmtAts
import Derived.Test.YbulkcvteFmtW16
namespace Go.Proofs.YbulkcvteFmt
open Go.RowKit
set_option linter.unusedVariables false

set_option maxRecDepth 100000 in
set_option maxHeartbeats 16000000 in
theorem st21 (sm pm hh mm md vv bv cb qb : Nat) (a2 a7 : Option Addr) (l2 c2 l7 c7 : Nat) (r2 r7 : Nat → Nat) (w : World) (hI : Inp w sm pm hh mm md vv bv cb qb a2 a7 l2 l7 r2 r7) (hnext : At29 sm pm hh mm md vv bv cb qb a2 a7 l2 c2 l7 c7 r2 r7 w) : At21 sm pm hh mm md vv bv cb qb a2 a7 l2 c2 l7 c7 r2 r7 w := by
  intro w1 S Pa La sa sc pa pc la lc va vc M ma mc b cs bs Bs C Pn u11 u12 u13 u14 u15 u16 u17 u18 u19 u20 u21 u24 u25 u27 u28 u30 u31 u33 u34 u36 u37 u39 u40 u41 u44 u45 u46 u47 u48 u49 u50 u51 u52 u53 u54 u55 u56 u57 u58 u59 u60 u61 u62 u63 u64 u65 u66 u67 u68 u69 u70 u71 u72 u73 u74 u75 u76 u77 u78 u79 u80 u81 u82 u83 u84 u85 u86 u87 u88 u89 u90 u91 u92 u93 u94 u95 u96 u97 u98 u99 u100 u101 u102 u103 u104 u105 u106 u107 u108 u109 u110 u111 u112 u113 u114 u115 u116 u117 u118 u119 u120 u121 u122 u123 u124 u125 u126 u127 u128 u129 u130 u131 u132 u133 u134 u135 u136 u137 u138 u139 u140 u141 u142 u143 u144 u145 u146 u147 u148 u149 u150 u151 u152 u153 u154 u155 u156 u157 u158 u159 u160 u161 u162 u163 u164 u165 u166 u167 u168 u169 u170 u171 u172 u173 u174 u175 u176 u177 u178 u179 u180 u181 u182 u183 u184 u185 u186 u187 u188 u189 u190 u191 u192 u193 u194 u195 u196 u197 u198 u199 u200 u201 u202 u203 u204 u205 u206 u207 u208 u209 u210 u211 u212 u213 u214 u215 u216 u217 u218 u219 u220 u221 u222 u223 u224 u225 u226 u227 u228 u229 u230 u231 u232 u233 u234 u235 u236 u237 u238 u239 u240 u241 u242 u243 u244 u245 u246 u247 u248 u249 u250 u251 u252 u253 u254 u255 u256 u257 u258 u259 u260 u261 u262 u263 u264 u265 u266 u267 u268 u269 u270 u271 u272 u273 u274 u275 u276 u277 u278 u279 u280 u281 u282 u283 u284 u285 u286 u287 u288 u289 u290 u291 u292 u293 u294 u295 u296 u297 u298 u299 u300 u301 u302 u303 u304 u305 u306 u307 u308 u309 u310 u311 u312 u313 u314 u315 u316 u317 u318 u319 u320 u321 u322 u323 u324 u325 u326 u327 u328 u329 u330 u331 u332 u333 u334 u335 u336 u337 u338 u339 u340 u341 u342 u343 u344 u345 u346 u347 u348 u349 u350 u351 u352 u353 u354 u355 u356 u357 u358 u359 u360 u361 u362 u363 u364 u365 u366 u367 u368 u369 u370 u371 u372 u373 u374 u375 u376 u377 u378 u379 u380 u381 u382 u383 u384 u385 u386 u387 u388 u389 u390 u391 u392 u393 u394 u395 u396 u397 u398 u399 u400 u401 u402 u403 u404 u405 u406 u407 u408 u409 u410 u411 u412 u413 u414 u415 u416 u417 u418 u419 u420 u421 u422 u423 hE hv hm hbk ha
  have HN := Hid.mk hnext
  have HI := Hid.mk hI
  clear hnext hI
  have HE := Hid.mk hE
  have HV := Hid.mk hv
  have HM := Hid.mk hm
  have HBk := Hid.mk hbk
  have HA := Hid.mk ha
  have hlo : w.heap.size ≤ w1.heap.size := hE.below.size
  have hbv := (HI.out).kbv
  have hhh := (HI.out).khh
  have HTAG : Hid (∀ W, Below w1.heap.size w1 W → W.cell? ⟨0, 13, none⟩ = some (.string tagB)) := fun W hW => by
    rw [(below_trans HE.out.below hW).cell (p := ⟨0, 13, none⟩) (HI.out).pos]; exact (HI.out).tag
  have hC : C < w1.heap.size := ha.bC.lt
  have hPn : Pn < w1.heap.size := ha.bP.lt
  have HRC : Hid (∀ W, Below w1.heap.size w1 W → W.rangeAt C 0 (chL cb)) := fun W hW j v hv => (HA.out.bC.later hW).cell (0 + j) (by simpa using hv)
  have HRP : Hid (∀ W, Below w1.heap.size w1 W → W.rangeAt Pn 0 (prL qb)) := fun W hW j v hv => (HA.out.bP.later hW).cell (0 + j) (by simpa using hv)
  have HS35c : Hid ((Ybaf.prog.info? 35).map (·.size) = some (chL cb).length) := by rw [chL_len]; exact size35
  have HS35p : Hid ((Ybaf.prog.info? 35).map (·.size) = some (prL qb).length) := by rw [prL_len]; exact size35
  clear hE hv hm hbk ha
  obtain ⟨ec, hcb, hn, h0, ⟨f0, h78⟩, h81, h86, h87, h94, hpr⟩ := eng_ex hh qb pa Pa.length pc la La.length lc
  have HCB := Hid.mk hcb
  have HM0 := Hid.mk (EngM.new w w1 hlo hh qb _ _ ec hn h0 f0 h78 h81 h86 h87 h94 hpr)
  have hb2 : Below w1.heap.size w1 (w1.alloc (.cells ec 77)) := (Below.refl _ _).alloc (Nat.le_refl _) _
  clear hcb h0 h78 h81 h86 h87 h94 hpr hn
  refine Rest.step rfl rfl ?_
  intro K hK
  go_wp2_with (first | (refine wpList_load_mid rfl 35 (.tmp 43) rfl Pn 0 rfl (prL qb) _ (HRP.out _ (Below.refl _ _)) Ybaf.underlying35 rfl HS35p.out ?_) | (refine wpList_build_to rfl 77 #[(10, .tmp 244), (14, .tmp 245), (4, .tmp 246), (5, .tmp 247)] rfl [(10, .int .u64 hh), (14, .agg (prL qb).toArray), (4, .slice pa Pa.length pc), (5, .slice la La.length lc)] ec ?f0 HCB.out ?_))
  refine hK.out _ _ ?_
  clear hK K
  generalize w1.alloc (.cells ec 77) = w2 at *
  have c81 := HM0.out.c81
  have f81 := (HM0.out.th 81 (by decide)).2
  refine Rest.step rfl rfl ?_
  intro K hK
  go_wp2_with fail
  refine hK.out _ _ ?_
  clear hK K c81 f81
  have HM1 := Hid.mk (HM0.out.setS (by decide) (.slice sa S.length sc))
  have hb3 : Below w1.heap.size w1 (w2.setCell ⟨w1.heap.size, 81, none⟩ (.slice sa S.length sc)) := by rw [set_one]; exact Below.setCells hb2 (Nat.le_refl _) _ _
  clear HM0 hb2
  generalize w2.setCell ⟨w1.heap.size, 81, none⟩ (.slice sa S.length sc) = w3 at *
  have hth : Hid (w3.there w1.heap.size 6 (chL cb).toArray.size) := fun j hj => by
    have := HM1.out.th (6 + j) (by simp [chL_len] at hj; omega)
    simpa using this
  refine Rest.step rfl rfl ?_
  intro K hK
  go_wp2_with (first | (refine wpList_load_mid rfl 35 (.tmp 42) rfl C 0 rfl (chL cb) _ (HRC.out _ hb3) Ybaf.underlying35 rfl HS35c.out ?_) | (refine wpList_store_mid rfl 35 (.tmp 259) (.tmp 256) rfl w1.heap.size 6 (chL cb).toArray rfl rfl hth.out (by rw [List.size_toArray]; exact HS35c.out) (all_oneCell_toArray HA.out.c1) ?_))
  refine hK.out _ _ ?_
  clear hK K hth
  dsimp only [Act.put]
  have HM2 := Hid.mk (HM1.out.setC (chL cb) (chL_len cb))
  have hb4 : Below w1.heap.size w1 (w3.setCells w1.heap.size 6 (chL cb)) := Below.setCells hb3 (Nat.le_refl _) _ _
  clear HM1 hb3
  generalize w3.setCells w1.heap.size 6 (chL cb) = w4 at *
  have c0 := HM2.out.c0
  refine Rest.step rfl rfl ?_
  intro K hK
  go_wp2_with (go_at_call 6; refine (mk6 _ _).mono ?_; rintro e w5 ⟨rfl, hkeys, hb45⟩; have c05 : w5.cell? ⟨w1.heap.size, 0, none⟩ = some (.slice none 0 0) := (HM2.out.later hb45).c0; have f05 := ((HM2.out.later hb45).th 0 (by decide)).2)
  refine hK.out _ _ ?_
  clear hK K c0
  have hlt4 : w1.heap.size < w4.heap.size := HM2.out.lt
  have HK6 := Hid.mk (hkeys.setAt (E := w1.heap.size) (i := 0) (u := .slice (some ⟨w4.heap.size, 0, none⟩) 16 16) (by omega) c05 (by simp))
  have HM3 := Hid.mk ((HM2.out.later hb45).setK (.slice (some ⟨w4.heap.size, 0, none⟩) 16 16))
  have hb6 : Below w1.heap.size w1 (w5.setCell ⟨w1.heap.size, 0, none⟩ (.slice (some ⟨w4.heap.size, 0, none⟩) 16 16)) := by rw [set_one]; exact Below.setCells (below_trans hb4 (hb45.mono (Nat.le_refl _))) (Nat.le_refl _) _ _
  clear HM2 hb4 hb45 hkeys c05 f05
  generalize w4.heap.size = kb at *
  generalize w5.setCell ⟨w1.heap.size, 0, none⟩ (.slice (some ⟨kb, 0, none⟩) 16 16) = w6 at *
  obtain ⟨hm, hhm, hm2⟩ : ∃ hm : Nat, IntKind.u64.wrap ((hh : Int) - 1) = (hm : Int) ∧ hm < 18446744073709551616 := ⟨(IntKind.u64.wrap ((hh : Int) - 1)).toNat, by simp [IntKind.wrap, IntKind.signed, IntKind.bits]; omega, by simp [IntKind.wrap, IntKind.signed, IntKind.bits]; omega⟩
  have hlt6 : w1.heap.size < w6.heap.size := HM3.out.lt
  have HTG6 : Hid (∀ W, Below w6.heap.size w6 W → W.cell? ⟨0, 13, none⟩ = some (.string tagB)) := fun W hW => HTAG.out W (below_trans hb6 hW)
  refine Rest.step rfl rfl ?_
  intro K hK
  go_wp2_with (first | (refine wpList_load_mid rfl 35 (.tmp 42) rfl C 0 rfl (chL cb) _ (HRC.out _ hb6) Ybaf.underlying35 rfl HS35c.out ?_) | (refine wpList_load_mid rfl 35 (.tmp 43) rfl Pn 0 rfl (prL qb) _ (HRP.out _ hb6) Ybaf.underlying35 rfl HS35p.out ?_) | (go_at_call 7; refine (commit7 (chL cb).toArray (prL qb).toArray hm bv _ (by simp [chL_len]) (by simp [prL_len]) (by simpa using HA.out.c1) (by simpa using HA.out.p1) hm2 hbv HTG6.out).mono ?_; rintro e w7 ⟨want, rfl, how, hb67⟩; have HOW := Hid.mk how; obtain ⟨wa, wc, rfl⟩ := own_shape how; clear how))
  refine hK.out _ _ ?_
  clear hK K
  have B7 : Blk (w7.alloc (.cells #[.slice wa 91 wc] 23)) w7.heap.size 23 [.slice wa 91 wc] := Blk.new w7 23 #[.slice wa 91 wc]
  have hb7 : Below w1.heap.size w1 w7 := below_trans hb6 hb67
  have hlt7 : w1.heap.size < w7.heap.size := by have := hb67.size; omega
  refine Rest.step rfl rfl ?_
  intro K hK
  go_wp2_with fail
  refine hK.out _ _ ?_
  clear hK K
  refine Rest.step rfl rfl ?_
  intro K hK
  go_wp2_with fail
  refine hK.out _ _ ?_
  clear hK K
  have HB8 : Hid (Blk (((w7.alloc (.cells #[.slice wa 91 wc] 23)).alloc (.cells #[.slice none 0 0] 26)).alloc (.cells #[.bool true] 4)) w7.heap.size 23 [.slice wa 91 wc]) := (B7.alloc _).alloc _
  have HB9 : Hid (Blk (((w7.alloc (.cells #[.slice wa 91 wc] 23)).alloc (.cells #[.slice none 0 0] 26)).alloc (.cells #[.bool true] 4)) (w7.heap.size + 1) 26 [.slice none 0 0]) := by
    have := (Blk.new (w7.alloc (.cells #[.slice wa 91 wc] 23)) 26 #[.slice none 0 0]).alloc (.cells #[.bool true] 4)
    simpa [Hid] using this
  have HB10 : Hid (Blk (((w7.alloc (.cells #[.slice wa 91 wc] 23)).alloc (.cells #[.slice none 0 0] 26)).alloc (.cells #[.bool true] 4)) (w7.heap.size + 1 + 1) 4 [.bool true]) := by
    have := Blk.new ((w7.alloc (.cells #[.slice wa 91 wc] 23)).alloc (.cells #[.slice none 0 0] 26)) 4 #[.bool true]
    simpa [Hid] using this
  have hb710 : Below w7.heap.size w7 (((w7.alloc (.cells #[.slice wa 91 wc] 23)).alloc (.cells #[.slice none 0 0] 26)).alloc (.cells #[.bool true] 4)) := below_alloc (below_alloc ((Below.refl _ _).alloc (Nat.le_refl _) _) _) _
  clear B7
  generalize ((w7.alloc (.cells #[.slice wa 91 wc] 23)).alloc (.cells #[.slice none 0 0] 26)).alloc (.cells #[.bool true] 4) = w10 at *
  have HM4 := Hid.mk ((HM3.out.later hb67).later hb710)
  have HK10 := Hid.mk ((HK6.out.later hb67).later hb710)
  have c78 := HM4.out.c78
  have f78 := (HM4.out.th 78 (by decide)).2
  have HO10 := Hid.mk (own_later HOW.out hb710)
  have hb10 : Below w1.heap.size w1 w10 := below_trans hb7 hb710
  have hst : (store ⟨w1.heap.size, 78, none⟩ (.func (.func 8) #[] #[.pointer (some ⟨w7.heap.size + 1 + 1, 0, none⟩), .pointer (some ⟨w7.heap.size + 1, 0, none⟩), .pointer (some ⟨w7.heap.size, 0, none⟩)])).run Ybaf.prog w10 = .ok () (w10.setCell ⟨w1.heap.size, 78, none⟩ (.func (.func 8) #[] #[.pointer (some ⟨w7.heap.size + 1 + 1, 0, none⟩), .pointer (some ⟨w7.heap.size + 1, 0, none⟩), .pointer (some ⟨w7.heap.size, 0, none⟩)])) := by
    rw [run_store _ _ _ _ _ rfl]
    simp [c78, f78]
  refine Rest.step rfl rfl ?_
  intro K hK
  go_wp2_with fail
  refine hK.out _ _ ?_
  clear hK K c78 f78 hst
  obtain ⟨vf, hvf⟩ : ∃ vf : Value, vf = .func (.func 8) #[] #[.pointer (some ⟨w7.heap.size + 1 + 1, 0, none⟩), .pointer (some ⟨w7.heap.size + 1, 0, none⟩), .pointer (some ⟨w7.heap.size, 0, none⟩)] := ⟨_, rfl⟩
  have hbf : Below w1.heap.size w1 (w10.setCell ⟨w1.heap.size, 78, none⟩ vf) := by rw [set_one]; exact Below.setCells hb10 (Nat.le_refl _) _ _
  have hMf := HM4.out.setF (by simp [chL_len]) vf
  obtain ⟨X, hX, hXl⟩ := stmt_ints cb qb hm bv
  have hOf := ownsRow_setCell_below (a := ⟨w1.heap.size, 78, none⟩) HO10.out hlt6 vf
  have hOf' : (w10.setCell ⟨w1.heap.size, 78, none⟩ vf).ownsRow w6.heap.size 5 1 (.slice wa 91 wc) 91 (stmt (chL cb) hm bv (prL qb)) := hOf
  rw [hX] at hOf'
  have hOf2 : (w10.setCell ⟨w1.heap.size, 78, none⟩ vf).ownsRow w6.heap.size 5 1 (.slice wa 91 wc) X.length (X.map (Value.int .u8)) := by rw [hXl]; exact hOf'
  have hBy := Bys.of_own hOf2 (by omega)
  have hKf := HK10.out.setAt (E := w1.heap.size) (i := 78) (u := vf) (by omega) HM4.out.c0 (by simp)
  have hW := HB8.out.other (a := ⟨w1.heap.size, 78, none⟩) (by show w7.heap.size ≠ w1.heap.size; omega) vf
  have hG := HB9.out.other (a := ⟨w1.heap.size, 78, none⟩) (by show w7.heap.size + 1 ≠ w1.heap.size; omega) vf
  have hMb := HB10.out.other (a := ⟨w1.heap.size, 78, none⟩) (by show w7.heap.size + 1 + 1 ≠ w1.heap.size; omega) vf
  have hEng : EngOk w (w10.setCell ⟨w1.heap.size, 78, none⟩ vf) w1.heap.size kb (w7.heap.size + 1 + 1) (w7.heap.size + 1) w7.heap.size (.slice sa S.length sc) (.slice pa Pa.length pc) (.slice la La.length lc) hh bv hm (.slice wa 91 wc) X (chL cb) (prL qb) :=
    ⟨⟨⟨hMf.lt, hMf.c81, hMf.c86, hMf.c87, hMf.c94⟩, hMf.c0, by rw [hMf.c78, hvf], hMf.chain, hMf.par⟩, hlo, by omega, hKf, hMb, hG, hW.lt, hW.cell 0 rfl, hBy, hX, hXl, chL_len cb, prL_len qb, HA.out.c1, HA.out.p1, hhm, hm2⟩
  rw [← hvf]
  exact HN.out _ S Pa La _ _ _ _ _ _ _ _ M _ _ _ _ _ Bs _ _ _ _ _ _ _ _ _ _ _ _ _ _ _ _ _ _ _ _ _ _ _ _ _ _ _ _ _ _ _ _ _ _ _ _ _ _ _ _ _ _ _ _ _ _ _ _ _ _ _ _ _ _ _ _ _ _ _ _ _ _ _ _ _ _ _ _ _ _ _ _ _ _ _ _ _ _ _ _ _ _ _ _ _ _ _ _ _ _ _ _ _ _ _ _ _ _ _ _ _ _ _ _ _ _ _ _ _ _ _ _ _ _ _ _ _ _ _ _ _ _ _ _ _ _ _ _ _ _ _ _ _ _ _ _ _ _ _ _ _ _ _ _ _ _ _ _ _ _ _ _ _ _ _ _ _ _ _ _ _ _ _ _ _ _ _ _ _ _ _ _ _ _ _ _ _ _ _ _ _ _ _ _ _ _ _ _ _ _ _ _ _ _ _ _ _ _ _ _ _ _ _ _ _ _ _ _ _ _ _ _ _ _ _ _ _ _ _ _ _ _ _ _ _ _ _ _ _ _ _ _ _ _ _ _ _ _ _ _ _ _ _ _ _ _ _ _ _ _ _ _ _ _ _ _ _ _ _ _ _ _ _ _ _ _ _ _ _ _ _ _ _ _ _ _ _ _ _ _ _ _ _ _ _ _ _ _ _ _ _ _ _ _ _ _ _ _ _ _ _ _ _ _ _ _ _ _ _ _ _ _ _ _ _ _ _ _ _ _ _ _ _ _ _ _ _ _ _ _ _ _ _ _ _ _ _ _ _ _ _ _ _ _ _ _ _ _ _ _ _ _ _ _ _ _ _ _ _ _ _ _ _ _ _ _ _ _ _ _ _ _ _ _ _ _ _ _ _ _ _ _ _ _ _ _ _ _ _ _ _ _ _ _ _ _ _ _ _ _ _ _ _ _ _ _ _ _ _ _ _ _ (HE.out.later hbf) (HV.out.later hbf) (HM.out.later hbf) (HBk.out.later hbf) hEng
end Go.Proofs.YbulkcvteFmt

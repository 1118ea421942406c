/- The law's walk: who is live. -/
import Derived.Test.YbulkcvteFmtAts
namespace Go.Proofs.YbulkcvteFmt
open Go.RowKit
set_option linter.unusedVariables false

set_option maxRecDepth 100000 in
set_option maxHeartbeats 16000000 in
theorem st11 (sm pm hh mm md vv bv cb qb : Nat) (a2 a7 : Option Addr) (l2 c2 l7 c7 : Nat) (r2 r7 : Nat → Nat) (w : World) (hI : Inp w sm pm hh mm md vv bv cb qb a2 a7 l2 l7 r2 r7) (hnext : At15 sm pm hh mm md vv bv cb qb a2 a7 l2 c2 l7 c7 r2 r7 w) : At11 sm pm hh mm md vv bv cb qb a2 a7 l2 c2 l7 c7 r2 r7 w := by
  intro w1 S Pa La sa sc pa pc la lc u11 u12 u13 u14 u15 u16 u17 u18 u19 u20 u21 u24 u25 u27 u28 u30 u31 u33 u34 u35 u36 u37 u38 u39 u40 u41 u42 u43 u44 u45 u46 u47 u48 u49 u50 u51 u52 u53 u54 u55 u56 u57 u58 u59 u60 u61 u62 u63 u64 u65 u66 u67 u68 u69 u70 u71 u72 u73 u74 u75 u76 u77 u78 u79 u80 u81 u82 u83 u84 u85 u86 u87 u88 u89 u90 u91 u92 u93 u94 u95 u96 u97 u98 u99 u100 u101 u102 u103 u104 u105 u106 u107 u108 u109 u110 u111 u112 u113 u114 u115 u116 u117 u118 u119 u120 u121 u122 u123 u124 u125 u126 u127 u128 u129 u130 u131 u132 u133 u134 u135 u136 u137 u138 u139 u140 u141 u142 u143 u144 u145 u146 u147 u148 u149 u150 u151 u152 u153 u154 u155 u156 u157 u158 u159 u160 u161 u162 u163 u164 u165 u166 u167 u168 u169 u170 u171 u172 u173 u174 u175 u176 u177 u178 u179 u180 u181 u182 u183 u184 u185 u186 u187 u188 u189 u190 u191 u192 u193 u194 u195 u196 u197 u198 u199 u200 u201 u202 u203 u204 u205 u206 u207 u208 u209 u210 u211 u212 u213 u214 u215 u216 u217 u218 u219 u220 u221 u222 u223 u224 u225 u226 u227 u228 u229 u230 u231 u232 u233 u234 u235 u236 u237 u238 u239 u240 u241 u242 u243 u244 u245 u246 u247 u248 u249 u250 u251 u252 u253 u254 u255 u256 u257 u258 u259 u260 u261 u262 u263 u264 u265 u266 u267 u268 u269 u270 u271 u272 u273 u274 u275 u276 u277 u278 u279 u280 u281 u282 u283 u284 u285 u286 u287 u288 u289 u290 u291 u292 u293 u294 u295 u296 u297 u298 u299 u300 u301 u302 u303 u304 u305 u306 u307 u308 u309 u310 u311 u312 u313 u314 u315 u316 u317 u318 u319 u320 u321 u322 u323 u324 u325 u326 u327 u328 u329 u330 u331 u332 u333 u334 u335 u336 u337 u338 u339 u340 u341 u342 u343 u344 u345 u346 u347 u348 u349 u350 u351 u352 u353 u354 u355 u356 u357 u358 u359 u360 u361 u362 u363 u364 u365 u366 u367 u368 u369 u370 u371 u372 u373 u374 u375 u376 u377 u378 u379 u380 u381 u382 u383 u384 u385 u386 u387 u388 u389 u390 u391 u392 u393 u394 u395 u396 u397 u398 u399 u400 u401 u402 u403 u404 u405 u406 u407 u408 u409 u410 u411 u412 u413 u414 u415 u416 u417 u418 u419 u420 u421 u422 u423 hE
  have HN := Hid.mk hnext
  have HI := Hid.mk hI
  clear hnext hI
  have HS := Hid.mk hE.s
  have HP := Hid.mk hE.p
  have hS1 := hE.ok.s1
  have hP1 : Pa.length ≤ 16 := by have := hE.ok.lt; omega
  have hlive := hE.live
  have HL : Hid (liveOf S Pa = S.filter fun x => !decide (x ∈ Pa)) := liveOf_eq hE.ok.pasc
  have HE := Hid.mk hE
  clear hE
  refine Rest.step rfl rfl ?_
  intro K hK
  go_wp2_with fail
  go_loopw [32, 34, 155] (fun x _ i wr => ∃ k : Nat, k ≤ S.length ∧ i = .int .i64 k ∧ Below w1.heap.size w1 wr ∧ OwnI wr w1.heap.size x ((S.take k).filter fun x => !decide (x ∈ Pa))) (fun _ _ i _ => S.length - (intOf i).toNat)
  case atStart => exact ⟨0, Nat.zero_le _, rfl, Below.refl _ _, OwnI.nil _ _⟩
  case round =>
    obtain ⟨k, hk, rfl, hb2, hown⟩ := hrel
    have hsz2 := hb2.size
    by_cases hkn : k < S.length
    · obtain ⟨eb, eo, ea, hebl, hcell⟩ := (HS.out.later hb2).at' hkn
      subst ea
      have hst : (S.take (k + 1)).filter (fun x => !decide (x ∈ Pa)) = (S.take k).filter (fun x => !decide (x ∈ Pa)) ++ (if decide (S.getD k 0 ∈ Pa) then [] else [S.getD k 0]) := by
        rw [List.take_add_one, get_getD hkn, List.filter_append]
        congr 1
        generalize S.getD k 0 = z
        by_cases hd : z ∈ Pa <;> simp [hd]
      have hln : ((S.take k).filter (fun x => !decide (x ∈ Pa))).length ≤ 16 := Nat.le_trans (List.length_filter_le _ _) (by simp; omega)
      generalize S.getD k 0 = m at hcell hst
      obtain ⟨xa, xc, rfl⟩ := hown.shape
      generalize (S.take k).filter (fun x => !decide (x ∈ Pa)) = P at hown hst hln
      have HP1 := Hid.mk (HP.out.later hb2)
      cases hd : decide (m ∈ Pa) with
      | true =>
        rw [hd] at hst
        simp only [if_true, List.append_nil] at hst
        have HST := Hid.mk hst
        have HD := Hid.mk hd
        clear hst hd
        go_wp2_with (go_at_call 4; refine (contains4 _ Pa m _ HP1.out (by omega)).mono ?_; rw [HD.out]; rintro e w3 ⟨rfl, rfl⟩)
        go_roundw
        case rel => exact ⟨k + 1, by omega, by go_num, hb2, by rw [HST.out]; exact hown⟩
        case measure => simp [intOf]; omega
      | false =>
        rw [hd] at hst
        simp only [Bool.false_eq_true, if_false] at hst
        have HST := Hid.mk hst
        have HD := Hid.mk hd
        clear hst hd
        go_wp2_with (first | (go_at_call 4; refine (contains4 _ Pa m _ HP1.out (by omega)).mono ?_; rw [HD.out]; rintro e w3 ⟨rfl, rfl⟩) | (at_builtin; refine app26 (w0 := w3) rfl _ _ rfl w1.heap.size (.slice xa P.length xc) P rfl hown m rfl (by omega) hsz2 ?_; intro x' w4 hown4 hb4))
        go_roundw
        case rel => exact ⟨k + 1, by omega, by go_num, hb2.trans hb4, by rw [HST.out]; exact hown4⟩
        case measure => simp [intOf]; omega
    · have hk' : k = S.length := by omega
      rw [hk', List.take_length, ← HL.out] at hown
      clear hk'
      have HO := Hid.mk hown.ints
      obtain ⟨xa, xc, rfl⟩ := hown.shape
      clear hown
      obtain ⟨hv0, hv1⟩ := hlive
      have hne : (((liveOf S Pa).length : Int) == 0) = false := beq_eq_false_iff_ne.2 (by omega)
      go_wp2_with fail
      refine hK.out _ _ ?_
      clear hK
      refine Rest.step rfl rfl ?_
      intro K2 hK
      go_wp2_with fail
      refine hK.out _ _ ?_
      clear hK
      refine Rest.step rfl rfl ?_
      intro K2 hK
      go_wp2_with fail
      refine hK.out _ _ ?_
      clear hK
      refine Rest.step rfl rfl ?_
      intro K2 hK
      go_wp2_with fail
      refine hK.out _ _ ?_
      exact HN.out wr S Pa La _ _ _ _ _ _ _ _ _ _ _ _ _ _ _ _ _ _ _ _ _ _ _ _ _ _ _ _ _ _ _ _ _ _ _ _ _ _ _ _ _ _ _ _ _ _ _ _ _ _ _ _ _ _ _ _ _ _ _ _ _ _ _ _ _ _ _ _ _ _ _ _ _ _ _ _ _ _ _ _ _ _ _ _ _ _ _ _ _ _ _ _ _ _ _ _ _ _ _ _ _ _ _ _ _ _ _ _ _ _ _ _ _ _ _ _ _ _ _ _ _ _ _ _ _ _ _ _ _ _ _ _ _ _ _ _ _ _ _ _ _ _ _ _ _ _ _ _ _ _ _ _ _ _ _ _ _ _ _ _ _ _ _ _ _ _ _ _ _ _ _ _ _ _ _ _ _ _ _ _ _ _ _ _ _ _ _ _ _ _ _ _ _ _ _ _ _ _ _ _ _ _ _ _ _ _ _ _ _ _ _ _ _ _ _ _ _ _ _ _ _ _ _ _ _ _ _ _ _ _ _ _ _ _ _ _ _ _ _ _ _ _ _ _ _ _ _ _ _ _ _ _ _ _ _ _ _ _ _ _ _ _ _ _ _ _ _ _ _ _ _ _ _ _ _ _ _ _ _ _ _ _ _ _ _ _ _ _ _ _ _ _ _ _ _ _ _ _ _ _ _ _ _ _ _ _ _ _ _ _ _ _ _ _ _ _ _ _ _ _ _ _ _ _ _ _ _ _ _ _ _ _ _ _ _ _ _ _ _ _ _ _ _ _ _ _ _ _ _ _ _ _ _ _ _ _ _ _ _ _ _ _ _ _ _ _ _ _ _ _ _ _ _ _ _ _ _ _ _ _ _ _ _ _ _ _ _ _ _ _ _ _ _ _ _ _ _ _ _ _ _ _ _ _ _ _ _ _ _ _ _ _ _ _ (HE.out.later hb2) HO.out
end Go.Proofs.YbulkcvteFmt

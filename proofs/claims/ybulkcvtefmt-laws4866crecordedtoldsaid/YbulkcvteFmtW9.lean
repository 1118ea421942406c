/- The law's walk: the lapses. -/
import Derived.Test.YbulkcvteFmtAts
import Derived.BigRegion
namespace Go.Proofs.YbulkcvteFmt
open Go.RowKit
set_option linter.unusedVariables false

theorem run_app28 (w0 : World) (ty : TypeId) (B : Nat) (v : Value) (L : List Lap) (hown : OwnL w0 B v L) (y : Lap) (hn : L.length ≤ 1048576) (hB : B ≤ w0.heap.size) :
    ∃ v' w', (Builtin.append_ #[28, 28] ty #[v, .slice (some ⟨w0.heap.size, 0, none⟩) 1 1]).run Ybaf.prog (w0.alloc (.cells #[.int .i64 y.v, .int .u16 y.m, .int .u64 y.b] 31)) = .ok v' w' ∧ OwnL w' B v' (L ++ [y]) ∧ Below B w0 w' := by
  obtain ⟨i, hi, hz0, hz1, hz2⟩ := info_parts info31
  obtain ⟨v', w', hr, h2, h3, h4⟩ := run_append_own (P := Ybaf.prog) (w0.alloc (.cells #[.int .i64 y.v, .int .u16 y.m, .int .u64 y.b] 31)) B 28 ty 31 i _ 3 24 Ybaf.underlying28 hi hz0 hz1 hz2 rfl (by decide) v L.length _ (World.ownsRow.alloc hown _) ⟨w0.heap.size, 0, none⟩ 1 1 [.int .i64 y.v, .int .u16 y.m, .int .u64 y.b] rfl (fun j u hj => by
      have hadd : (⟨w0.heap.size, 0, none⟩ : Addr).add j = ⟨w0.heap.size, j, none⟩ := by unfold Addr.add; split <;> simp_all
      rw [hadd]
      exact (Blk.new w0 31 #[.int .i64 y.v, .int .u16 y.m, .int .u64 y.b]).cell j (by simpa using hj)) (fun u hu => by simp at hu; rcases hu with rfl | rfl | rfl <;> rfl) (by unfold maxLen; omega) (by omega) (by simp; omega)
  refine ⟨v', w', hr, ?_, ?_⟩
  · unfold OwnL
    simpa [Lap.cells] using h2
  · exact ((Below.refl B w0).alloc hB _).grown h3 (by simp; omega) (fun k hk => (hown.lt k hk).1)

set_option maxRecDepth 100000 in
set_option maxHeartbeats 16000000 in
theorem st9 (sm pm hh mm md vv bv cb qb : Nat) (a2 a7 : Option Addr) (l2 c2 l7 c7 : Nat) (r2 r7 : Nat → Nat) (w : World) (hI : Inp w sm pm hh mm md vv bv cb qb a2 a7 l2 l7 r2 r7) (hnext : At11 sm pm hh mm md vv bv cb qb a2 a7 l2 c2 l7 c7 r2 r7 w) : At9 sm pm hh mm md vv bv cb qb a2 a7 l2 c2 l7 c7 r2 r7 w := by
  intro w1 S Pa sa sc pa pc u11 u12 u13 u14 u15 u16 u17 u18 u19 u20 u21 u24 u25 u27 u28 u30 u31 u32 u33 u34 u35 u36 u37 u38 u39 u40 u41 u42 u43 u44 u45 u46 u47 u48 u49 u50 u51 u52 u53 u54 u55 u56 u57 u58 u59 u60 u61 u62 u63 u64 u65 u66 u67 u68 u69 u70 u71 u72 u73 u74 u75 u76 u77 u78 u79 u80 u81 u82 u83 u84 u85 u86 u87 u88 u89 u90 u91 u92 u93 u94 u95 u96 u97 u98 u99 u100 u101 u102 u103 u104 u105 u106 u107 u108 u109 u110 u111 u112 u113 u114 u115 u116 u117 u118 u119 u120 u121 u122 u123 u124 u125 u126 u127 u128 u129 u130 u131 u132 u133 u134 u135 u136 u137 u138 u139 u140 u141 u142 u143 u144 u145 u146 u147 u148 u149 u150 u151 u152 u153 u154 u155 u156 u157 u158 u159 u160 u161 u162 u163 u164 u165 u166 u167 u168 u169 u170 u171 u172 u173 u174 u175 u176 u177 u178 u179 u180 u181 u182 u183 u184 u185 u186 u187 u188 u189 u190 u191 u192 u193 u194 u195 u196 u197 u198 u199 u200 u201 u202 u203 u204 u205 u206 u207 u208 u209 u210 u211 u212 u213 u214 u215 u216 u217 u218 u219 u220 u221 u222 u223 u224 u225 u226 u227 u228 u229 u230 u231 u232 u233 u234 u235 u236 u237 u238 u239 u240 u241 u242 u243 u244 u245 u246 u247 u248 u249 u250 u251 u252 u253 u254 u255 u256 u257 u258 u259 u260 u261 u262 u263 u264 u265 u266 u267 u268 u269 u270 u271 u272 u273 u274 u275 u276 u277 u278 u279 u280 u281 u282 u283 u284 u285 u286 u287 u288 u289 u290 u291 u292 u293 u294 u295 u296 u297 u298 u299 u300 u301 u302 u303 u304 u305 u306 u307 u308 u309 u310 u311 u312 u313 u314 u315 u316 u317 u318 u319 u320 u321 u322 u323 u324 u325 u326 u327 u328 u329 u330 u331 u332 u333 u334 u335 u336 u337 u338 u339 u340 u341 u342 u343 u344 u345 u346 u347 u348 u349 u350 u351 u352 u353 u354 u355 u356 u357 u358 u359 u360 u361 u362 u363 u364 u365 u366 u367 u368 u369 u370 u371 u372 u373 u374 u375 u376 u377 u378 u379 u380 u381 u382 u383 u384 u385 u386 u387 u388 u389 u390 u391 u392 u393 u394 u395 u396 u397 u398 u399 u400 u401 u402 u403 u404 u405 u406 u407 u408 u409 u410 u411 u412 u413 u414 u415 u416 u417 u418 u419 u420 u421 u422 u423 hb hok hs hp
  have HN := Hid.mk hnext
  have HI := Hid.mk hI
  clear hnext hI
  have HS := Hid.mk hs
  have HP := Hid.mk hp
  have HOK := Hid.mk hok
  have HB := Hid.mk hb
  have hS1 := hok.s1
  have hhh := HI.out.khh
  have H2 := Hid.mk ((HI.out).by2.later hb)
  have HBS := Hid.mk hok.bnd
  clear hs hp hok hb
  refine Rest.step rfl rfl ?_
  intro K hK
  go_wp2_with fail
  go_loopw [29, 30, 31, 114] (fun x _ _ i wr => ∃ k : Nat, k ≤ S.length ∧ i = .int .i64 k ∧ Below w1.heap.size w1 wr ∧ OwnL wr w1.heap.size x (lapTo S r2 l2 hh k)) (fun _ _ _ i _ => S.length - (intOf i).toNat)
  case atStart => exact ⟨0, Nat.zero_le _, rfl, Below.refl _ _, OwnL.nil _ _⟩
  case round =>
    obtain ⟨k, hk, rfl, hb2, hown⟩ := hrel
    have hsz2 := hb2.size
    by_cases hkn : k < S.length
    · obtain ⟨eb, eo, ea, hebl, hcell⟩ := (HS.out.later hb2).at' hkn
      subst ea
      have hst := lapTo_succ S r2 l2 hh k
      have hln := lapTo_len S r2 l2 hh k
      unfold lapB lapV at hst
      generalize S.getD k 0 = m at hcell hst
      obtain ⟨xa, xc, rfl⟩ := hown.shape
      generalize lapTo S r2 l2 hh k = P at hown hst hln
      by_cases hk2 : k < l2
      · obtain ⟨gb, go, ga, hgl1, hgc⟩ := H2.out.2 k hk2
        rw [← hb2.cell (p := ⟨gb, go + k, none⟩) hgl1] at hgc
        have hgl : gb < wr.heap.size := Nat.lt_of_lt_of_le hgl1 hsz2
        subst ga
        have hrn := H2.out.1 k
        generalize r2 k = rn at hgc hst hrn
        have hd2 : decide ((k : Int) < (l2 : Int)) = true := by simp; omega
        by_cases hz : rn % 4 = 0
        · have e1 : Int.tmod (rn : Int) 4 = 0 := by rw [Int.tmod_eq_emod_of_nonneg (by omega)]; omega
          have e2 : (rn : Int) % 4 = 0 := by omega
          rw [e2] at hst
          simp only [hk2, decide_true, beq_self_eq_true, Bool.not_true, Bool.and_false, Bool.false_eq_true, if_false, List.append_nil] at hst
          have HST := Hid.mk hst
          clear hst
          go_wp2_with fail
          go_roundw
          case rel => exact ⟨k + 1, by omega, by go_num, hb2, by rw [HST.out]; exact hown⟩
          case measure => simp [intOf]; omega
        · obtain ⟨q, hq, hq4, hq0⟩ : ∃ q : Nat, q = rn % 4 ∧ q < 4 ∧ q ≠ 0 := ⟨_, rfl, by omega, hz⟩
          obtain ⟨y, hy, hy5⟩ : ∃ y : Nat, y = rn / 4 % 5 ∧ y < 5 := ⟨_, rfl, by omega⟩
          have e1 : Int.tmod (rn : Int) 4 = (q : Int) := by rw [Int.tmod_eq_emod_of_nonneg (by omega)]; omega
          have e2 : (rn : Int) % 4 = (q : Int) := by omega
          have e3 : ((q : Int) == 0) = false := by simp; omega
          have e4 : (rn : Int) / 4 % 5 = (y : Int) := by omega
          have e5 : Int.tmod ((rn : Int) / 4) 5 = (y : Int) := by rw [Int.tmod_eq_emod_of_nonneg (by omega)]; omega
          have e6 : IntKind.u16.wrap (q : Int) = (q : Int) := by simp [IntKind.wrap, IntKind.signed, IntKind.bits]; omega
          have e7 : IntKind.u64.wrap (y : Int) = (y : Int) := by simp [IntKind.wrap, IntKind.signed, IntKind.bits]; omega
          rw [e2, e4, e3] at hst
          simp only [hk2, decide_true, Bool.not_false, Bool.and_self, if_true] at hst
          obtain ⟨z, hz5⟩ : ∃ z, z = IntKind.u64.wrap (IntKind.u64.wrap ((hh : Int) + (y : Int)) - 2) := ⟨_, rfl⟩
          rw [← hz5] at hst
          have HZ := Hid.mk hz5
          have HST := Hid.mk hst
          have HQ := Hid.mk (And.intro hq hy)
          clear hst hq hy hz5
          go_wp2_with fail
          refine wp_region_can (fun W => W.cell? ⟨gb, go + k, none⟩ = some (.int .u8 (rn : Int))) [(0, true), (1, true), (2, true), (3, true), (4, true), (5, true), (6, true), (7, true), (8, true), (9, true), (10, true), (11, true), (12, true), (13, true), (14, true), (15, true), (16, true), (17, true), (18, true), (19, false), (20, false), (21, true)] (by kernel_rfl) (by kernel_rfl) (by kernel_rfl) rfl hgc ?_
          refine stepR (some 131) (.slice xa P.length xc) rfl rfl rfl (fun W hW => by go_simp) ?_
          refine stepR (some 132) (.int .i64 m) rfl rfl rfl (fun W hW => by go_simp) ?_
          refine stepR (some 133) (.slice (some ⟨gb, go, none⟩) l2 c2) rfl rfl rfl (fun W hW => by go_simp) ?_
          refine stepR (some 134) (.int .i64 k) rfl rfl rfl (fun W hW => by go_simp) ?_
          go_simp
          refine stepR (some 135) (.pointer (some ⟨gb, go + k, none⟩)) rfl rfl rfl (fun W hW => by go_simp) ?_
          refine stepR (some 136) (.int .u8 (rn : Int)) rfl rfl rfl (fun W hW => by go_simp) ?_
          refine stepR (some 137) (.int .u8 (q : Int)) rfl rfl rfl (fun W hW => by go_simp) ?_
          refine stepR (some 138) (.int .u16 (q : Int)) rfl rfl rfl (fun W hW => by go_simp) ?_
          go_simp
          refine stepR (some 139) (.int .u64 (hh : Int)) rfl rfl rfl (fun W hW => by go_simp) ?_
          refine stepR (some 140) (.slice (some ⟨gb, go, none⟩) l2 c2) rfl rfl rfl (fun W hW => by go_simp) ?_
          refine stepR (some 141) (.int .i64 k) rfl rfl rfl (fun W hW => by go_simp) ?_
          refine stepR (some 142) (.pointer (some ⟨gb, go + k, none⟩)) rfl rfl rfl (fun W hW => by go_simp) ?_
          go_simp
          refine stepR (some 143) (.int .u8 (rn : Int)) rfl rfl rfl (fun W hW => by go_simp) ?_
          refine stepR (some 144) (.int .u8 ((rn : Int) / 4)) rfl rfl rfl (fun W hW => by go_simp) ?_
          refine stepR (some 145) (.int .u8 (y : Int)) rfl rfl rfl (fun W hW => by go_simp) ?_
          refine stepR (some 146) (.int .u64 (y : Int)) rfl rfl rfl (fun W hW => by go_simp) ?_
          go_simp
          refine stepR (some 147) (.int .u64 (IntKind.u64.wrap ((hh : Int) + (y : Int)))) rfl rfl rfl (fun W hW => by go_simp) ?_
          refine stepR (some 148) (.int .u64 z) rfl rfl rfl (fun W hW => by rw [HZ.out]; go_simp) ?_
          refine stepR (some 149) (.agg #[.int .i64 m, .int .u16 (q : Int), .int .u64 z]) rfl rfl rfl (fun W hW => by go_simp) ?_
          go_simp
          have HO2 : Hid (OwnL wr.drew w1.heap.size (.slice xa P.length xc) P) := hown.later ((Below.refl _ _).drew)
          obtain ⟨v', w5, hrun, hO5, hb5⟩ := run_app28 wr.drew 28 w1.heap.size (.slice xa P.length xc) P HO2.out ⟨m, q, z⟩ (by omega) hsz2
          have HO5 := Hid.mk hO5
          obtain ⟨xa5, xc5, rfl⟩ := hO5.shape
          refine stepO (some 150) (wr.drew.alloc (.cells #[.int .i64 m, .int .u16 (q : Int), .int .u64 z] 31)) (n := .value (.slice (some ⟨wr.heap.size, 0, none⟩) 1 1)) (u := .slice (some ⟨wr.heap.size, 0, none⟩) 1 1) rfl rfl rfl (by go_simp) (.inl rfl) ?c1 ?_
          case c1 => rw [((Below.refl wr.drew.heap.size wr.drew).alloc (Nat.le_refl _) _).cell (by exact hgl)]; exact hgc
          refine stepO (some 151) w5 (n := .value (.slice xa5 (P ++ [(⟨m, q, z⟩ : Lap)]).length xc5)) (u := .slice xa5 (P ++ [(⟨m, q, z⟩ : Lap)]).length xc5) rfl rfl rfl (exec_append rfl rfl rfl hrun) (.inl rfl) ?c2 ?_
          case c2 => rw [hb5.cell (p := ⟨gb, go + k, none⟩) hgl1]; exact hgc
          clear hrun
          refine stepR (some 29) (.slice xa5 (P ++ [(⟨m, q, z⟩ : Lap)]).length xc5) rfl rfl rfl (fun W hW => by go_simp) ?_
          refine chain_nil ?_
          go_wp2_with fail
          go_roundw
          case rel => exact ⟨k + 1, by omega, by go_num, hb2.trans ((Below.refl _ _).drew.trans hb5), by rw [HST.out]; simpa using HO5.out⟩
          case measure => simp [intOf]; omega
      · have hd2 : decide ((k : Int) < (l2 : Int)) = false := by simp; omega
        simp only [hk2, decide_false, Bool.false_and, Bool.false_eq_true, if_false, List.append_nil] at hst
        have HST := Hid.mk hst
        clear hst
        go_wp2_with fail
        go_roundw
        case rel => exact ⟨k + 1, by omega, by go_num, hb2, by rw [HST.out]; exact hown⟩
        case measure => simp [intOf]; omega
    · have hk' : k = S.length := by omega
      have HLO := Hid.mk (lap_ok HOK.out.asc HBS.out r2 l2 hh k hk' hS1)
      clear hk'
      have HO := Hid.mk hown.laps
      obtain ⟨xa, xc, rfl⟩ := hown.shape
      clear hown
      generalize lapTo S r2 l2 hh k = La at HLO HO
      go_wp2_with fail
      refine hK.out _ _ ?_
      clear hK
      refine Rest.step rfl rfl ?_
      intro K2 hK
      go_wp2_with fail
      refine hK.out _ _ ?_
      exact HN.out wr S Pa La _ _ _ _ _ _ _ _ _ _ _ _ _ _ _ _ _ _ _ _ _ _ _ _ _ _ _ _ _ _ _ _ _ _ _ _ _ _ _ _ _ _ _ _ _ _ _ _ _ _ _ _ _ _ _ _ _ _ _ _ _ _ _ _ _ _ _ _ _ _ _ _ _ _ _ _ _ _ _ _ _ _ _ _ _ _ _ _ _ _ _ _ _ _ _ _ _ _ _ _ _ _ _ _ _ _ _ _ _ _ _ _ _ _ _ _ _ _ _ _ _ _ _ _ _ _ _ _ _ _ _ _ _ _ _ _ _ _ _ _ _ _ _ _ _ _ _ _ _ _ _ _ _ _ _ _ _ _ _ _ _ _ _ _ _ _ _ _ _ _ _ _ _ _ _ _ _ _ _ _ _ _ _ _ _ _ _ _ _ _ _ _ _ _ _ _ _ _ _ _ _ _ _ _ _ _ _ _ _ _ _ _ _ _ _ _ _ _ _ _ _ _ _ _ _ _ _ _ _ _ _ _ _ _ _ _ _ _ _ _ _ _ _ _ _ _ _ _ _ _ _ _ _ _ _ _ _ _ _ _ _ _ _ _ _ _ _ _ _ _ _ _ _ _ _ _ _ _ _ _ _ _ _ _ _ _ _ _ _ _ _ _ _ _ _ _ _ _ _ _ _ _ _ _ _ _ _ _ _ _ _ _ _ _ _ _ _ _ _ _ _ _ _ _ _ _ _ _ _ _ _ _ _ _ _ _ _ _ _ _ _ _ _ _ _ _ _ _ _ _ _ _ _ _ _ _ _ _ _ _ _ _ _ _ _ _ _ _ _ _ _ _ _ _ _ _ _ _ _ _ _ _ _ _ _ _ _ _ _ _ _ _ _ _ _ _ _ _ _ _ _ _ _ _ _ _ _ _ _ _ _ _ _ _ ⟨below_trans HB.out hb2, HOK.out, HLO.out, HS.out.later hb2, HP.out.later hb2, HO.out⟩
end Go.Proofs.YbulkcvteFmt

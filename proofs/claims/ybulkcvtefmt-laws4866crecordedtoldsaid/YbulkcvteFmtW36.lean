/- The law's walk: the commits, as the law looks at them. -/
import Derived.Test.YbulkcvteFmtAts
import Derived.BigQuiet
namespace Go.Proofs.YbulkcvteFmt
open Go.RowKit
set_option linter.unusedVariables false

theorem Laps.at' {w : World} {a : Option Addr} {c : Nat} {L : List Lap} (h : Laps w (.slice a L.length c) L) {i : Nat} (hi : i < L.length) : ∃ b o, a = some ⟨b, o, none⟩ ∧ b < w.heap.size ∧ w.cell? ⟨b, o + i * 3, none⟩ = some (.int .i64 (lapAt L i).v) ∧ w.cell? ⟨b, o + i * 3 + 1, none⟩ = some (.int .u16 (lapAt L i).m) ∧ w.cell? ⟨b, o + i * 3 + 2, none⟩ = some (.int .u64 (lapAt L i).b) := by
  obtain ⟨a', c', e, _, _, h3⟩ := h
  simp only [Value.slice.injEq] at e
  obtain ⟨rfl, _, _⟩ := e
  exact h3 i hi
theorem app26G {w0 : World} {ops : Array Oper} {rest : List Oper} {o : Oper} {a : Act} {Q : Exit → Act → World → Prop} (hgd : o.guard = none) (sl x : Operand)
    (ho : o.op = .call { callee := .builtin .append, args := #[sl, x], argTypes := #[26, 26] }) (B : Nat) (v : Value) (L : List Int) (hs : a.eval sl = v) (hown : OwnI w0 B v L) (y : Int) (hx : a.eval x = .slice (some ⟨w0.heap.size, 0, none⟩) 1 1)
    (hn : L.length ≤ 1048576) (hB : B ≤ w0.heap.size)
    (hK : ∀ v' w', OwnI w' B v' (L ++ [y]) → Below B w0 w' → (∀ j, j < w0.heap.size → v.ownBlock ≠ some j → w'.heap[j]? = w0.heap[j]?) → wpList Ybaf.prog ops Q rest (a.put o.dst v') w') :
    wpList Ybaf.prog ops Q (o :: rest) a (w0.alloc (.cells #[.int .i64 y] 3)) := by
  obtain ⟨i, hi, hz0, hz1, hz2⟩ := info_parts info3
  refine wpList_append_own _ hgd sl x 26 ho B 3 i _ 1 8 Ybaf.underlying26 hi hz0 hz1 hz2 rfl (by decide) v L.length _ hs (World.ownsRow.alloc hown _) ⟨w0.heap.size, 0, none⟩ 1 1 [.int .i64 y] hx rfl (cell_one_new _ _ _) (fun u hu => by simp at hu; subst hu; rfl) (by unfold maxLen; omega) (by omega) (by simp; omega) ?_
  intro v' w' ho' hg _
  refine hK v' w' ?_ ?_ fun j hj hne => ?_
  · unfold OwnI
    simpa using ho'
  · exact ((Below.refl B w0).alloc hB _).grown hg (by simp; omega) (fun k hk => (hown.lt k hk).1)
  · rw [hg.block j (by simp; omega) (fun e => hne e.symm)]
    exact ((Below.refl w0.heap.size w0).alloc (Nat.le_refl _) _).block j hj
theorem ne_ownI {w : World} {B g : Nat} {v : Value} {L : List Int} {cs : List Value} {t : TypeId} (h : OwnI w B v L) (hg : Blk w g t cs) (ht : t ≠ 3) : v.ownBlock ≠ some g := by
  intro e
  obtain ⟨_, ⟨rfl, _⟩ | ⟨g', cap, cur, rfl, _, hh, _⟩⟩ := h
  · cases e
  · obtain rfl : g' = g := by simpa [Value.ownBlock] using e
    unfold Blk at hg
    rw [hg] at hh
    simp at hh
    exact ht hh.2
theorem blk_app {w0 w' : World} {B g t : Nat} {v : Value} {L : List Int} {cs : List Value} (h : OwnI w0 B v L) (hf : ∀ j, j < w0.heap.size → v.ownBlock ≠ some j → w'.heap[j]? = w0.heap[j]?) (hg : Blk w0 g t cs) (ht : t ≠ 3) : Blk w' g t cs := by
  have h1 := hf g hg.lt (ne_ownI h hg ht)
  unfold Blk at *
  rw [h1]; exact hg
/-- From where the first j lapses let a member back. -/
def bfTo (La : List Lap) (m : Int) (j : Nat) : Int := (La.take j).foldl (fun acc l => if l.v = m then l.b else acc) 0
theorem bfTo_succ {La : List Lap} {m : Int} {j : Nat} (hj : j < La.length) : bfTo La m (j + 1) = if (lapAt La j).v = m then (lapAt La j).b else bfTo La m j := by
  unfold bfTo
  rw [List.take_add_one, List.getElem?_eq_getElem hj, List.foldl_append]
  simp [lapAt, List.getD, hj]
theorem bfTo_all (La : List Lap) (m : Int) : bfTo La m La.length = bfOf La m := by
  unfold bfTo bfOf
  rw [List.take_length]
theorem pre_eq {Pa : List Int} {La : List Lap} {h : Nat} {Bs : List Sig} {k : Nat} (hP : Asc Pa) (hL : Asc (vals La)) : preOk Pa La h Bs k = ((decide ((sigAt Bs k).v ∈ Pa) && decide (bfOf La (sigAt Bs k).v ≤ (h : Int))) && !(decide (0 < k) && decide ((sigAt Bs k).v ≤ (sigAt Bs (k - 1)).v))) := by
  unfold preOk
  rw [hasB_asc hP, bf_eq hL]
theorem take_sig {Bs : List Sig} {k : Nat} (hk : k < Bs.length) : (Bs.take (k + 1)).map Sig.v = (Bs.take k).map Sig.v ++ [(sigAt Bs k).v] := by
  rw [List.take_add_one, List.getElem?_eq_getElem hk, List.map_append]
  simp [sigAt, List.getD, hk]
theorem n_eq {S Pa M : List Int} {La : List Lap} {Bs : List Sig} {BP : List Int} {BL : List Lap} {h n gv k : Nat} {gok : Bool} {L : List Int} (hr : RecSays S Pa M La Bs BP BL h n gv gok L) (hme : M = missedOf S Pa h (propIn S Pa h M)) (hall : ∀ j, j < k → preOk Pa La h Bs j = true ∧ sigOk Bs j = true) (hk : k ≤ Bs.length) (hstop : k < Bs.length → preOk Pa La h Bs k = false ∨ sigOk Bs k = false) : n = k := by
  obtain ⟨h1, h2, h3⟩ := hr
  rcases Nat.lt_trichotomy n k with hl | hl | hl
  · obtain ⟨e1, e2⟩ := hall n hl
    rcases h3 with h3 | h3 | h3 | h3
    · exact absurd hme h3.1
    · rw [h3.2.2.1] at e1; cases e1
    · rw [h3.2.2.2.1] at e2; cases e2
    · have := h3.2.1; omega
  · exact hl
  · obtain ⟨e1, e2⟩ := h2 k hl
    rcases hstop (by omega) with h4 | h4
    · rw [h4] at e1; cases e1
    · rw [h4] at e2; cases e2

set_option maxRecDepth 100000 in
set_option maxHeartbeats 16000000 in
theorem st36 (sm pm hh mm md vv bv cb qb : Nat) (a2 a7 : Option Addr) (l2 c2 l7 c7 : Nat) (r2 r7 : Nat → Nat) (w : World) (hI : Inp w sm pm hh mm md vv bv cb qb a2 a7 l2 l7 r2 r7) (hnext : At37 sm pm hh mm md vv bv cb qb a2 a7 l2 c2 l7 c7 r2 r7 w) : At36 sm pm hh mm md vv bv cb qb a2 a7 l2 c2 l7 c7 r2 r7 w := by
  intro w1 S Pa La sa sc pa pc la lc va vc M ma mc b cs bs Bs E kb Mb G Wt want X ch pr hm0 bp bl BP BL gv gok gs n ev ps u11 u12 u13 u14 u15 u16 u17 u18 u19 u20 u21 u24 u25 u27 u28 u30 u31 u33 u34 u36 u37 u39 u40 u41 u42 u43 u48 u52 u55 u56 u57 u58 u59 u60 u61 u62 u63 u64 u65 u66 u67 u68 u69 u70 u71 u72 u73 u74 u75 u76 u77 u78 u79 u80 u81 u82 u83 u84 u85 u86 u87 u88 u89 u90 u91 u92 u93 u94 u95 u96 u97 u98 u99 u100 u101 u102 u103 u104 u105 u106 u107 u108 u109 u110 u111 u112 u113 u114 u115 u116 u117 u118 u119 u120 u121 u122 u123 u124 u125 u126 u127 u128 u129 u130 u131 u132 u133 u134 u135 u136 u137 u138 u139 u140 u141 u142 u143 u144 u145 u146 u147 u148 u149 u150 u151 u152 u153 u154 u155 u156 u157 u158 u159 u160 u161 u162 u163 u164 u165 u166 u167 u168 u169 u170 u171 u172 u173 u174 u175 u176 u177 u178 u179 u180 u181 u182 u183 u184 u185 u186 u187 u188 u189 u190 u191 u192 u193 u194 u195 u196 u197 u198 u199 u200 u201 u202 u203 u204 u205 u206 u207 u208 u209 u210 u211 u212 u213 u214 u215 u216 u217 u218 u219 u220 u221 u222 u223 u224 u225 u226 u227 u228 u229 u230 u231 u232 u233 u234 u235 u236 u237 u238 u239 u240 u241 u242 u243 u244 u245 u246 u247 u248 u249 u250 u251 u252 u253 u254 u255 u256 u257 u258 u259 u260 u261 u262 u263 u264 u265 u266 u267 u268 u269 u270 u271 u272 u273 u274 u275 u276 u277 u278 u279 u280 u281 u282 u283 u284 u285 u286 u287 u288 u289 u290 u291 u292 u293 u294 u295 u296 u297 u298 u299 u300 u301 u302 u303 u304 u305 u306 u307 u308 u309 u310 u311 u312 u313 u314 u315 u316 u317 u318 u319 u320 u321 u322 u323 u324 u325 u326 u327 u328 u329 u330 u331 u332 u333 u334 u335 u336 u337 u338 u339 u340 u341 u342 u343 u344 u345 u346 u347 u348 u349 u350 u351 u352 u353 u354 u355 u356 u357 u358 u359 u360 u361 u362 u363 u364 u365 u366 u367 u368 u369 u370 u371 u372 u373 u374 u375 u376 u377 u378 u379 u380 u381 u382 u383 u384 u385 u386 u387 u388 u389 u390 u391 u392 u393 u394 u395 u396 u397 u398 u399 u400 u401 u402 u403 u404 u405 u406 u407 u408 u409 u410 u411 u412 u413 u414 u415 u416 u417 u418 u419 u420 u421 u422 u423 hE hv hm hbk heng hpast hrec hev hps
  have HN := Hid.mk hnext
  have HI := Hid.mk hI
  clear hnext hI
  have HE := Hid.mk hE
  have HV := Hid.mk hv
  have HM := Hid.mk hm
  have HBk := Hid.mk hbk
  have HEn := Hid.mk heng
  have HPs := Hid.mk hpast
  have HRC := Hid.mk hrec
  have HEV := Hid.mk hev
  have hhh := (HI.out).khh
  have hBl := hbk.len
  have hP1 : Pa.length ≤ 16 := by have := hE.ok.lt; have := hE.ok.s1; omega
  have hL1 := hE.lok.len
  obtain ⟨ba, bc, ebs, hat0⟩ := hbk.sigs
  subst ebs
  have HAT := Hid.mk hat0
  clear hat0
  have HCell : Hid (∀ W, Below w1.heap.size w1 W → W.cell? ⟨b, 36, none⟩ = some (.slice ba Bs.length bc)) := fun W hW => (HBk.out.blk.later hW).cell 36 (by simpa using HBk.out.cells.c36)
  have HPRE0 : Hid (∀ k, preOk Pa La hh Bs k = ((decide ((sigAt Bs k).v ∈ Pa) && decide (bfOf La (sigAt Bs k).v ≤ (hh : Int))) && !(decide (0 < k) && decide ((sigAt Bs k).v ≤ (sigAt Bs (k - 1)).v)))) := fun k => pre_eq HE.out.ok.pasc HE.out.lok.asc
  clear hE hv hm hbk heng hpast hrec hev
  refine Rest.step rfl rfl ?_
  intro K hK
  by_cases hme : M = missedOf S Pa hh (propIn S Pa hh M)
  · rw [decide_eq_true hme] at hps
    subst hps
    have HME := Hid.mk hme
    clear hme
    have c36 := HCell.out w1 (Below.refl _ _)
    go_wp2_with fail
    clear c36
    go_loopw [53, 54, 55, 56, 57, 59, 328, 333, 334, 335] (fun p x _ _ _ _ i _ _ _ wr => ∃ k : Nat, k ≤ Bs.length ∧ i = .int .i64 k ∧ p = .bool true ∧ Below w1.heap.size w1 wr ∧ OwnI wr w1.heap.size x ((Bs.take k).map Sig.v) ∧ (∀ j, j < k → preOk Pa La hh Bs j = true ∧ sigOk Bs j = true)) (fun _ _ _ _ _ _ i _ _ _ _ => Bs.length - (intOf i).toNat)
    case atStart => exact ⟨0, Nat.zero_le _, rfl, rfl, Below.refl _ _, OwnI.nil _ _, fun j hj => absurd hj (Nat.not_lt_zero _)⟩
    case round =>
      obtain ⟨k, hk, rfl, rfl, hb, hown, hall⟩ := hrel
      obtain ⟨wo, hwo⟩ : ∃ wo : World, wo = wr := ⟨_, rfl⟩
      subst hwo
      have HALL := Hid.mk hall
      obtain ⟨Yk, hYk⟩ : ∃ Yk, Yk = (Bs.take k).map Sig.v := ⟨_, rfl⟩
      have hYl : Yk.length ≤ 1024 := by rw [hYk]; simp; omega
      rw [← hYk] at hown
      have HYk := Hid.mk hYk
      have HOWN := Hid.mk hown
      obtain ⟨ya, yc, rfl⟩ := hown.shape
      clear hall hown hYk
      by_cases hkn : k < Bs.length
      · obtain ⟨sb, so, g, ea, hsl1, hgl1, k11, k21, k31⟩ := HAT.out k hkn
        subst ea
        have hbn := HBk.out.bnd (sigAt Bs k) (by simp [sigAt, List.getD, hkn])
        obtain ⟨cv, hcv⟩ : ∃ cv, (sigAt Bs k).v = cv := ⟨_, rfl⟩
        obtain ⟨cx, hcx⟩ : ∃ cx, (sigAt Bs k).x = cx := ⟨_, rfl⟩
        rw [hcv] at k11 hbn
        rw [hcx] at k31 hbn
        have HPE := Hid.mk (HPRE0.out k)
        have HCV := Hid.mk (And.intro hcv hcx)
        clear hcv hcx
        have k1 : wo.cell? ⟨sb, so + k * 2, none⟩ = some (.int .i64 cv) := by rw [hb.cell (p := ⟨sb, so + k * 2, none⟩) hsl1]; exact k11
        have k2 : wo.cell? ⟨sb, so + k * 2 + 1, none⟩ = some (.slice (some ⟨g, 0, none⟩) 1 1) := by rw [hb.cell (p := ⟨sb, so + k * 2 + 1, none⟩) hsl1]; exact k21
        go_wp2_with fail
        have hBC : Blk (wo.alloc (.cells #[.int .i64 cv, .slice (some ⟨g, 0, none⟩) 1 1] 41)) wo.heap.size 41 [.int .i64 cv, .slice (some ⟨g, 0, none⟩) 1 1] := Blk.new wo 41 #[.int .i64 cv, .slice (some ⟨g, 0, none⟩) 1 1]
        have hbo : Below wo.heap.size wo (wo.alloc (.cells #[.int .i64 cv, .slice (some ⟨g, 0, none⟩) 1 1] 41)) := (Below.refl _ _).alloc (Nat.le_refl _) _
        clear k1 k2
        generalize wo.alloc (.cells #[.int .i64 cv, .slice (some ⟨g, 0, none⟩) 1 1] 41) = wc at *
        have HBC := Hid.mk hBC
        clear hBC
        have HLc : Hid (∀ W, Below wc.heap.size wc W → Laps W (.slice la La.length lc) La) := fun W hW => HE.out.l.later (below_trans hb (below_trans hbo hW))
        go_loopw [57, 59, 335] (fun bf _ i wr => ∃ j : Nat, j ≤ La.length ∧ i = .int .i64 j ∧ bf = .int .u64 (bfTo La cv j) ∧ Below wc.heap.size wc wr) (fun _ _ i _ => La.length - (intOf i).toNat)
        case atStart => exact ⟨0, Nat.zero_le _, rfl, rfl, Below.refl _ _⟩
        case round =>
          obtain ⟨j, hj, rfl, rfl, hb2⟩ := hrel
          have HCB := Hid.mk (HBC.out.later hb2)
          have c0 := HCB.out.cell 0 rfl
          have hltc := HCB.out.lt
          by_cases hjn : j < La.length
          · obtain ⟨lb, lo, ea, hll, l1, l2', l3⟩ := (HLc.out wr hb2).at' hjn
            subst ea
            have hst := bfTo_succ (La := La) (m := cv) hjn
            generalize (lapAt La j).v = lv at l1 hst
            generalize (lapAt La j).b = lbb at l3 hst
            generalize (lapAt La j).m = lm at l2'
            generalize bfTo La cv j = bf0 at *
            by_cases hq : lv = cv
            · have hq' : (lv == cv) = true := by simpa using hq
              rw [if_pos hq] at hst
              have HST := Hid.mk hst
              clear hst hq
              go_wp2_with fail
              go_roundw
              case rel => exact ⟨j + 1, by omega, by go_num, by rw [HST.out], below_alloc hb2 _⟩
              case measure => simp [intOf]; omega
            · have hq' : (lv == cv) = false := by simpa using hq
              rw [if_neg hq] at hst
              have HST := Hid.mk hst
              clear hst hq
              go_wp2_with fail
              go_roundw
              case rel => exact ⟨j + 1, by omega, by go_num, by rw [HST.out], below_alloc hb2 _⟩
              case measure => simp [intOf]; omega
          · have hj' : j = La.length := by omega
            rw [hj', bfTo_all]
            clear hj'
            rw [HCV.out.1] at HPE
            generalize bfOf La cv = BF at *
            have c1 := HCB.out.cell 1 rfl
            have hb3 : Below w1.heap.size w1 wr := below_trans hb (below_trans hbo hb2)
            have HOW := Hid.mk (HOWN.out.later (below_trans hbo hb2))
            have kc3 : wr.cell? ⟨g, 0, none⟩ = some (.int .u8 cx) := by rw [hb3.cell (p := ⟨g, 0, none⟩) hgl1]; exact k31
            have hmk : Int.ofNat k = (k : Int) := rfl
            by_cases hin : cv ∈ Pa
            · have HC4 : Hid (∀ n, Calls Ybaf.prog 4 #[.slice pa Pa.length pc, .int .i64 cv] (wr.drewN n) fun e w' => e = .returned (.bool true) ∧ w' = wr.drewN n) := fun n => by rw [← decide_eq_true hin]; exact contains4 _ Pa cv _ (HE.out.p.later (below_drewN hb3 n)) (by omega)
              by_cases hbf : BF ≤ (hh : Int)
              · have hg1 : decide ((hh : Int) < BF) = false := decide_eq_false (by omega)
                by_cases hk0 : 0 < k
                · have hg2 : decide (0 < (k : Int)) = true := decide_eq_true (by omega)
                  have hg2n : decide (0 < k) = true := decide_eq_true hk0
                  obtain ⟨kp, hkp⟩ : ∃ kp : Nat, k = kp + 1 := ⟨k - 1, by omega⟩
                  have hkz : (k : Int) - 1 = (kp : Int) := by omega
                  have hkp1 : kp < Bs.length := by omega
                  obtain ⟨sb2, so2, g2, ea2, _, _, p11, _, _⟩ := HAT.out kp hkp1
                  simp only [Option.some.injEq, Addr.mk.injEq] at ea2
                  obtain ⟨rfl, rfl, _⟩ := ea2
                  have p1 : wr.cell? ⟨sb, so + kp * 2, none⟩ = some (.int .i64 (sigAt Bs kp).v) := by rw [hb3.cell (p := ⟨sb, so + kp * 2, none⟩) hsl1]; exact p11
                  have c36 := HCell.out wr hb3
                  rw [show k - 1 = kp by omega] at HPE
                  generalize (sigAt Bs kp).v = pv at *
                  by_cases hle : cv ≤ pv
                  · have hg3 : decide (cv ≤ pv) = true := decide_eq_true hle
                    have HPRE : Hid (preOk Pa La hh Bs k = false) := by rw [HPE.out]; simp [hle, hk0, Hid]
                    clear hin hbf hle hkp hk0
                    go_wp2_with fail
                    go_quiet (first | (go_at_call 4; refine Calls.quiet_of_same (HC4.out _)))
                    go_wp2_with fail
                    have hbF : Below w1.heap.size w1 (wr.drewN nq) := below_drewN hb3 nq
                    have hnk : n = k := by
                      obtain ⟨Lr, _, _, hr⟩ := HRC.out
                      exact n_eq hr HME.out HALL.out (by omega) (fun _ => .inl HPRE.out)
                    refine hK.out _ _ ?_
                    exact HN.out _ S Pa La _ _ _ _ _ _ _ _ M _ _ b _ _ Bs E kb Mb G Wt want X ch pr hm0 bp bl BP BL gv gok gs n ev false _ _ (Yk) _ _ _ _ _ _ _ _ _ _ _ _ _ _ _ _ _ _ _ _ _ _ _ _ _ _ _ _ _ _ _ _ _ _ _ _ _ _ _ _ _ _ _ _ _ _ _ _ _ _ _ _ _ _ _ _ _ _ _ _ _ _ _ _ _ _ _ _ _ _ _ _ _ _ _ _ _ _ _ _ _ _ _ _ _ _ _ _ _ _ _ _ _ _ _ _ _ _ _ _ _ _ _ _ _ _ _ _ _ _ _ _ _ _ _ _ _ _ _ _ _ _ _ _ _ _ _ _ _ _ _ _ _ _ _ _ _ _ _ _ _ _ _ _ _ _ _ _ _ _ _ _ _ _ _ _ _ _ _ _ _ _ _ _ _ _ _ _ _ _ _ _ _ _ _ _ _ _ _ _ _ _ _ _ _ _ _ _ _ _ _ _ _ _ _ _ _ _ _ _ _ _ _ _ _ _ _ _ _ _ _ _ _ _ _ _ _ _ _ _ _ _ _ _ _ _ _ _ _ _ _ _ _ _ _ _ _ _ _ _ _ _ _ _ _ _ _ _ _ _ _ _ _ _ _ _ _ _ _ _ _ _ _ _ _ _ _ _ _ _ _ _ _ _ _ _ _ _ _ _ _ _ _ _ _ _ _ _ _ _ _ _ _ _ _ _ _ _ _ _ _ _ _ _ _ _ _ _ _ _ _ _ _ _ _ _ _ _ _ _ _ _ _ _ _ _ _ _ _ _ _ _ _ _ _ _ _ _ _ _ _ _ _ _ _ _ _ _ _ _ _ _ _ _ _ _ _ _ _ _ _ _ _ _ _ _ _ _ _ _ _ _ _ _ _ _ _ _ _ _ _ _ _ _ _ _ _ _ _ _ _ _ _ _ _ _ _ (HE.out.later hbF) (HV.out.later hbF) (HM.out.later hbF) (HBk.out.later hbF) (HEn.out.later hbF) (HPs.out.later hbF) (HRC.out.later hbF) HEV.out (own_base (HOW.out.later (below_drewN (Below.refl _ _) nq)) HE.out.below.size) (by rw [hnk]; exact .inr (.inl ⟨HME.out, hkn, HPRE.out, rfl, HYk.out⟩))
                  · have hg3 : decide (cv ≤ pv) = false := decide_eq_false hle
                    have HPRE : Hid (preOk Pa La hh Bs k = true) := by rw [HPE.out]; simp [hle, hin, hbf, Hid]
                    clear hin hbf hle hkp hk0
                    have HTK := Hid.mk (take_sig hkn)
                    rw [HCV.out.1, ← HYk.out] at HTK
                    go_wp2_with fail
                    go_quiet (first | (go_at_call 4; refine Calls.quiet_of_same (HC4.out _)))
                    have HO9 : Hid (OwnI (wr.drewN nq) w1.heap.size (.slice ya Yk.length yc) Yk) := HOW.out.later (below_drewN (Below.refl _ _) nq)
                    have HC9 : Hid (Blk (wr.drewN nq) wo.heap.size 41 [.int .i64 cv, .slice (some ⟨g, 0, none⟩) 1 1]) := HCB.out
                    have hb9 : Below w1.heap.size w1 (wr.drewN nq) := below_drewN hb3 nq
                    have c9 := HC9.out.cell 0 rfl
                    have hs9 := hb9.size
                    have hlt9 := HC9.out.lt
                    clear c0 c1 kc3
                    generalize wr.drewN nq = w9 at *
                    cases hsg : (bits .and .u8 cx 1 == 0) with
                    | true =>
                      have HSIG : Hid (sigOk Bs k = true) := by unfold sigOk Hid; rw [HCV.out.2]; exact hsg
                      go_wp2_with (at_builtin; refine app26G (w0 := w9) rfl _ _ rfl w1.heap.size (.slice ya Yk.length yc) Yk rfl HO9.out cv rfl (by omega) hs9 ?_; intro v' w4 hown4 hb4 hf4; have HO4 := Hid.mk hown4; obtain ⟨x4, y4, rfl⟩ := hown4.shape; have hC4 := blk_app HO9.out hf4 HC9.out (by decide); have d1 := hC4.cell 1 rfl; have hbF : Below w1.heap.size w1 w4 := hb9.trans hb4; have d3 : w4.cell? ⟨g, 0, none⟩ = some (.int .u8 cx) := (by rw [hbF.cell (p := ⟨g, 0, none⟩) hgl1]; exact k31); clear hown4 hf4 hC4)
                      go_roundw
                      case rel => exact ⟨k + 1, by omega, by go_num, rfl, hbF, by rw [HTK.out]; simpa using HO4.out, fun j hj => by
                        rcases Nat.lt_or_ge j k with h | h
                        · exact HALL.out j h
                        · obtain rfl : j = k := by omega
                          exact ⟨HPRE.out, HSIG.out⟩⟩
                      case measure => simp [intOf]; omega
                    | false =>
                      have HSIG : Hid (sigOk Bs k = false) := by unfold sigOk Hid; rw [HCV.out.2]; exact hsg
                      go_wp2_with (at_builtin; refine app26G (w0 := w9) rfl _ _ rfl w1.heap.size (.slice ya Yk.length yc) Yk rfl HO9.out cv rfl (by omega) hs9 ?_; intro v' w4 hown4 hb4 hf4; have HO4 := Hid.mk hown4; obtain ⟨x4, y4, rfl⟩ := hown4.shape; have hC4 := blk_app HO9.out hf4 HC9.out (by decide); have d1 := hC4.cell 1 rfl; have hbF : Below w1.heap.size w1 w4 := hb9.trans hb4; have d3 : w4.cell? ⟨g, 0, none⟩ = some (.int .u8 cx) := (by rw [hbF.cell (p := ⟨g, 0, none⟩) hgl1]; exact k31); clear hown4 hf4 hC4)
                      have hnk : n = k := by
                        obtain ⟨Lr, _, _, hr⟩ := HRC.out
                        exact n_eq hr HME.out HALL.out (by omega) (fun _ => .inr HSIG.out)
                      refine hK.out _ _ ?_
                      rw [show Yk.length + 1 = (Yk ++ [cv]).length by simp]
                      exact HN.out _ S Pa La _ _ _ _ _ _ _ _ M _ _ b _ _ Bs E kb Mb G Wt want X ch pr hm0 bp bl BP BL gv gok gs n ev false _ _ (Yk ++ [cv]) _ _ _ _ _ _ _ _ _ _ _ _ _ _ _ _ _ _ _ _ _ _ _ _ _ _ _ _ _ _ _ _ _ _ _ _ _ _ _ _ _ _ _ _ _ _ _ _ _ _ _ _ _ _ _ _ _ _ _ _ _ _ _ _ _ _ _ _ _ _ _ _ _ _ _ _ _ _ _ _ _ _ _ _ _ _ _ _ _ _ _ _ _ _ _ _ _ _ _ _ _ _ _ _ _ _ _ _ _ _ _ _ _ _ _ _ _ _ _ _ _ _ _ _ _ _ _ _ _ _ _ _ _ _ _ _ _ _ _ _ _ _ _ _ _ _ _ _ _ _ _ _ _ _ _ _ _ _ _ _ _ _ _ _ _ _ _ _ _ _ _ _ _ _ _ _ _ _ _ _ _ _ _ _ _ _ _ _ _ _ _ _ _ _ _ _ _ _ _ _ _ _ _ _ _ _ _ _ _ _ _ _ _ _ _ _ _ _ _ _ _ _ _ _ _ _ _ _ _ _ _ _ _ _ _ _ _ _ _ _ _ _ _ _ _ _ _ _ _ _ _ _ _ _ _ _ _ _ _ _ _ _ _ _ _ _ _ _ _ _ _ _ _ _ _ _ _ _ _ _ _ _ _ _ _ _ _ _ _ _ _ _ _ _ _ _ _ _ _ _ _ _ _ _ _ _ _ _ _ _ _ _ _ _ _ _ _ _ _ _ _ _ _ _ _ _ _ _ _ _ _ _ _ _ _ _ _ _ _ _ _ _ _ _ _ _ _ _ _ _ _ _ _ _ _ _ _ _ _ _ _ _ _ _ _ _ _ _ _ _ _ _ _ _ _ _ _ _ _ _ _ _ _ _ _ _ _ _ _ _ _ _ _ _ _ _ _ (HE.out.later hbF) (HV.out.later hbF) (HM.out.later hbF) (HBk.out.later hbF) (HEn.out.later hbF) (HPs.out.later hbF) (HRC.out.later hbF) HEV.out (own_base HO4.out HE.out.below.size) (by rw [hnk, ← HTK.out]; exact .inr (.inr (.inl ⟨HME.out, hkn, HPRE.out, HSIG.out, rfl, rfl⟩)))
                · have hg2 : decide (0 < (k : Int)) = false := decide_eq_false (by omega)
                  have hg2n : decide (0 < k) = false := decide_eq_false hk0
                  have HPRE : Hid (preOk Pa La hh Bs k = true) := by rw [HPE.out]; simp [hk0, hin, hbf, Hid]
                  clear hin hbf hk0
                  have HTK := Hid.mk (take_sig hkn)
                  rw [HCV.out.1, ← HYk.out] at HTK
                  go_wp2_with fail
                  go_quiet (first | (go_at_call 4; refine Calls.quiet_of_same (HC4.out _)))
                  have HO9 : Hid (OwnI (wr.drewN nq) w1.heap.size (.slice ya Yk.length yc) Yk) := HOW.out.later (below_drewN (Below.refl _ _) nq)
                  have HC9 : Hid (Blk (wr.drewN nq) wo.heap.size 41 [.int .i64 cv, .slice (some ⟨g, 0, none⟩) 1 1]) := HCB.out
                  have hb9 : Below w1.heap.size w1 (wr.drewN nq) := below_drewN hb3 nq
                  have c9 := HC9.out.cell 0 rfl
                  have hs9 := hb9.size
                  have hlt9 := HC9.out.lt
                  clear c0 c1 kc3
                  generalize wr.drewN nq = w9 at *
                  cases hsg : (bits .and .u8 cx 1 == 0) with
                  | true =>
                    have HSIG : Hid (sigOk Bs k = true) := by unfold sigOk Hid; rw [HCV.out.2]; exact hsg
                    go_wp2_with (at_builtin; refine app26G (w0 := w9) rfl _ _ rfl w1.heap.size (.slice ya Yk.length yc) Yk rfl HO9.out cv rfl (by omega) hs9 ?_; intro v' w4 hown4 hb4 hf4; have HO4 := Hid.mk hown4; obtain ⟨x4, y4, rfl⟩ := hown4.shape; have hC4 := blk_app HO9.out hf4 HC9.out (by decide); have d1 := hC4.cell 1 rfl; have hbF : Below w1.heap.size w1 w4 := hb9.trans hb4; have d3 : w4.cell? ⟨g, 0, none⟩ = some (.int .u8 cx) := (by rw [hbF.cell (p := ⟨g, 0, none⟩) hgl1]; exact k31); clear hown4 hf4 hC4)
                    go_roundw
                    case rel => exact ⟨k + 1, by omega, by go_num, rfl, hbF, by rw [HTK.out]; simpa using HO4.out, fun j hj => by
                      rcases Nat.lt_or_ge j k with h | h
                      · exact HALL.out j h
                      · obtain rfl : j = k := by omega
                        exact ⟨HPRE.out, HSIG.out⟩⟩
                    case measure => simp [intOf]; omega
                  | false =>
                    have HSIG : Hid (sigOk Bs k = false) := by unfold sigOk Hid; rw [HCV.out.2]; exact hsg
                    go_wp2_with (at_builtin; refine app26G (w0 := w9) rfl _ _ rfl w1.heap.size (.slice ya Yk.length yc) Yk rfl HO9.out cv rfl (by omega) hs9 ?_; intro v' w4 hown4 hb4 hf4; have HO4 := Hid.mk hown4; obtain ⟨x4, y4, rfl⟩ := hown4.shape; have hC4 := blk_app HO9.out hf4 HC9.out (by decide); have d1 := hC4.cell 1 rfl; have hbF : Below w1.heap.size w1 w4 := hb9.trans hb4; have d3 : w4.cell? ⟨g, 0, none⟩ = some (.int .u8 cx) := (by rw [hbF.cell (p := ⟨g, 0, none⟩) hgl1]; exact k31); clear hown4 hf4 hC4)
                    have hnk : n = k := by
                      obtain ⟨Lr, _, _, hr⟩ := HRC.out
                      exact n_eq hr HME.out HALL.out (by omega) (fun _ => .inr HSIG.out)
                    refine hK.out _ _ ?_
                    rw [show Yk.length + 1 = (Yk ++ [cv]).length by simp]
                    exact HN.out _ S Pa La _ _ _ _ _ _ _ _ M _ _ b _ _ Bs E kb Mb G Wt want X ch pr hm0 bp bl BP BL gv gok gs n ev false _ _ (Yk ++ [cv]) _ _ _ _ _ _ _ _ _ _ _ _ _ _ _ _ _ _ _ _ _ _ _ _ _ _ _ _ _ _ _ _ _ _ _ _ _ _ _ _ _ _ _ _ _ _ _ _ _ _ _ _ _ _ _ _ _ _ _ _ _ _ _ _ _ _ _ _ _ _ _ _ _ _ _ _ _ _ _ _ _ _ _ _ _ _ _ _ _ _ _ _ _ _ _ _ _ _ _ _ _ _ _ _ _ _ _ _ _ _ _ _ _ _ _ _ _ _ _ _ _ _ _ _ _ _ _ _ _ _ _ _ _ _ _ _ _ _ _ _ _ _ _ _ _ _ _ _ _ _ _ _ _ _ _ _ _ _ _ _ _ _ _ _ _ _ _ _ _ _ _ _ _ _ _ _ _ _ _ _ _ _ _ _ _ _ _ _ _ _ _ _ _ _ _ _ _ _ _ _ _ _ _ _ _ _ _ _ _ _ _ _ _ _ _ _ _ _ _ _ _ _ _ _ _ _ _ _ _ _ _ _ _ _ _ _ _ _ _ _ _ _ _ _ _ _ _ _ _ _ _ _ _ _ _ _ _ _ _ _ _ _ _ _ _ _ _ _ _ _ _ _ _ _ _ _ _ _ _ _ _ _ _ _ _ _ _ _ _ _ _ _ _ _ _ _ _ _ _ _ _ _ _ _ _ _ _ _ _ _ _ _ _ _ _ _ _ _ _ _ _ _ _ _ _ _ _ _ _ _ _ _ _ _ _ _ _ _ _ _ _ _ _ _ _ _ _ _ _ _ _ _ _ _ _ _ _ _ _ _ _ _ _ _ _ _ _ _ _ _ _ _ _ _ _ _ _ _ _ _ _ _ _ _ _ _ _ _ _ _ _ _ _ _ _ _ _ (HE.out.later hbF) (HV.out.later hbF) (HM.out.later hbF) (HBk.out.later hbF) (HEn.out.later hbF) (HPs.out.later hbF) (HRC.out.later hbF) HEV.out (own_base HO4.out HE.out.below.size) (by rw [hnk, ← HTK.out]; exact .inr (.inr (.inl ⟨HME.out, hkn, HPRE.out, HSIG.out, rfl, rfl⟩)))
              · have hg1 : decide ((hh : Int) < BF) = true := decide_eq_true (by omega)
                have HPRE : Hid (preOk Pa La hh Bs k = false) := by rw [HPE.out]; simp [hbf, Hid]
                clear hin hbf
                go_wp2_with fail
                go_quiet (first | (go_at_call 4; refine Calls.quiet_of_same (HC4.out _)))
                go_wp2_with fail
                have hbF : Below w1.heap.size w1 (wr.drewN nq) := below_drewN hb3 nq
                have hnk : n = k := by
                  obtain ⟨Lr, _, _, hr⟩ := HRC.out
                  exact n_eq hr HME.out HALL.out (by omega) (fun _ => .inl HPRE.out)
                refine hK.out _ _ ?_
                exact HN.out _ S Pa La _ _ _ _ _ _ _ _ M _ _ b _ _ Bs E kb Mb G Wt want X ch pr hm0 bp bl BP BL gv gok gs n ev false _ _ (Yk) _ _ _ _ _ _ _ _ _ _ _ _ _ _ _ _ _ _ _ _ _ _ _ _ _ _ _ _ _ _ _ _ _ _ _ _ _ _ _ _ _ _ _ _ _ _ _ _ _ _ _ _ _ _ _ _ _ _ _ _ _ _ _ _ _ _ _ _ _ _ _ _ _ _ _ _ _ _ _ _ _ _ _ _ _ _ _ _ _ _ _ _ _ _ _ _ _ _ _ _ _ _ _ _ _ _ _ _ _ _ _ _ _ _ _ _ _ _ _ _ _ _ _ _ _ _ _ _ _ _ _ _ _ _ _ _ _ _ _ _ _ _ _ _ _ _ _ _ _ _ _ _ _ _ _ _ _ _ _ _ _ _ _ _ _ _ _ _ _ _ _ _ _ _ _ _ _ _ _ _ _ _ _ _ _ _ _ _ _ _ _ _ _ _ _ _ _ _ _ _ _ _ _ _ _ _ _ _ _ _ _ _ _ _ _ _ _ _ _ _ _ _ _ _ _ _ _ _ _ _ _ _ _ _ _ _ _ _ _ _ _ _ _ _ _ _ _ _ _ _ _ _ _ _ _ _ _ _ _ _ _ _ _ _ _ _ _ _ _ _ _ _ _ _ _ _ _ _ _ _ _ _ _ _ _ _ _ _ _ _ _ _ _ _ _ _ _ _ _ _ _ _ _ _ _ _ _ _ _ _ _ _ _ _ _ _ _ _ _ _ _ _ _ _ _ _ _ _ _ _ _ _ _ _ _ _ _ _ _ _ _ _ _ _ _ _ _ _ _ _ _ _ _ _ _ _ _ _ _ _ _ _ _ _ _ _ _ _ _ _ _ _ _ _ _ _ _ _ _ _ _ _ _ _ _ _ _ _ _ _ _ _ _ _ _ _ _ (HE.out.later hbF) (HV.out.later hbF) (HM.out.later hbF) (HBk.out.later hbF) (HEn.out.later hbF) (HPs.out.later hbF) (HRC.out.later hbF) HEV.out (own_base (HOW.out.later (below_drewN (Below.refl _ _) nq)) HE.out.below.size) (by rw [hnk]; exact .inr (.inl ⟨HME.out, hkn, HPRE.out, rfl, HYk.out⟩))
            · have HC4 : Hid (∀ n, Calls Ybaf.prog 4 #[.slice pa Pa.length pc, .int .i64 cv] (wr.drewN n) fun e w' => e = .returned (.bool false) ∧ w' = wr.drewN n) := fun n => by rw [← decide_eq_false hin]; exact contains4 _ Pa cv _ (HE.out.p.later (below_drewN hb3 n)) (by omega)
              have HPRE : Hid (preOk Pa La hh Bs k = false) := by rw [HPE.out]; simp [hin, Hid]
              clear hin
              go_wp2_with fail
              go_quiet (first | (go_at_call 4; refine Calls.quiet_of_same (HC4.out _)))
              go_wp2_with fail
              have hbF : Below w1.heap.size w1 (wr.drewN nq) := below_drewN hb3 nq
              have hnk : n = k := by
                obtain ⟨Lr, _, _, hr⟩ := HRC.out
                exact n_eq hr HME.out HALL.out (by omega) (fun _ => .inl HPRE.out)
              refine hK.out _ _ ?_
              exact HN.out _ S Pa La _ _ _ _ _ _ _ _ M _ _ b _ _ Bs E kb Mb G Wt want X ch pr hm0 bp bl BP BL gv gok gs n ev false _ _ (Yk) _ _ _ _ _ _ _ _ _ _ _ _ _ _ _ _ _ _ _ _ _ _ _ _ _ _ _ _ _ _ _ _ _ _ _ _ _ _ _ _ _ _ _ _ _ _ _ _ _ _ _ _ _ _ _ _ _ _ _ _ _ _ _ _ _ _ _ _ _ _ _ _ _ _ _ _ _ _ _ _ _ _ _ _ _ _ _ _ _ _ _ _ _ _ _ _ _ _ _ _ _ _ _ _ _ _ _ _ _ _ _ _ _ _ _ _ _ _ _ _ _ _ _ _ _ _ _ _ _ _ _ _ _ _ _ _ _ _ _ _ _ _ _ _ _ _ _ _ _ _ _ _ _ _ _ _ _ _ _ _ _ _ _ _ _ _ _ _ _ _ _ _ _ _ _ _ _ _ _ _ _ _ _ _ _ _ _ _ _ _ _ _ _ _ _ _ _ _ _ _ _ _ _ _ _ _ _ _ _ _ _ _ _ _ _ _ _ _ _ _ _ _ _ _ _ _ _ _ _ _ _ _ _ _ _ _ _ _ _ _ _ _ _ _ _ _ _ _ _ _ _ _ _ _ _ _ _ _ _ _ _ _ _ _ _ _ _ _ _ _ _ _ _ _ _ _ _ _ _ _ _ _ _ _ _ _ _ _ _ _ _ _ _ _ _ _ _ _ _ _ _ _ _ _ _ _ _ _ _ _ _ _ _ _ _ _ _ _ _ _ _ _ _ _ _ _ _ _ _ _ _ _ _ _ _ _ _ _ _ _ _ _ _ _ _ _ _ _ _ _ _ _ _ _ _ _ _ _ _ _ _ _ _ _ _ _ _ _ _ _ _ _ _ _ _ _ _ _ _ _ _ _ _ _ _ _ _ _ _ _ _ _ _ _ _ _ _ (HE.out.later hbF) (HV.out.later hbF) (HM.out.later hbF) (HBk.out.later hbF) (HEn.out.later hbF) (HPs.out.later hbF) (HRC.out.later hbF) HEV.out (own_base (HOW.out.later (below_drewN (Below.refl _ _) nq)) HE.out.below.size) (by rw [hnk]; exact .inr (.inl ⟨HME.out, hkn, HPRE.out, rfl, HYk.out⟩))
      · have hkk : k = Bs.length := by omega
        go_wp2_with fail
        have hnk : n = k := by
          obtain ⟨Lr, _, _, hr⟩ := HRC.out
          exact n_eq hr HME.out HALL.out (by omega) (fun h => absurd h hkn)
        refine hK.out _ _ ?_
        exact HN.out _ S Pa La _ _ _ _ _ _ _ _ M _ _ b _ _ Bs E kb Mb G Wt want X ch pr hm0 bp bl BP BL gv gok gs n ev true _ _ Yk _ _ _ _ _ _ _ _ _ _ _ _ _ _ _ _ _ _ _ _ _ _ _ _ _ _ _ _ _ _ _ _ _ _ _ _ _ _ _ _ _ _ _ _ _ _ _ _ _ _ _ _ _ _ _ _ _ _ _ _ _ _ _ _ _ _ _ _ _ _ _ _ _ _ _ _ _ _ _ _ _ _ _ _ _ _ _ _ _ _ _ _ _ _ _ _ _ _ _ _ _ _ _ _ _ _ _ _ _ _ _ _ _ _ _ _ _ _ _ _ _ _ _ _ _ _ _ _ _ _ _ _ _ _ _ _ _ _ _ _ _ _ _ _ _ _ _ _ _ _ _ _ _ _ _ _ _ _ _ _ _ _ _ _ _ _ _ _ _ _ _ _ _ _ _ _ _ _ _ _ _ _ _ _ _ _ _ _ _ _ _ _ _ _ _ _ _ _ _ _ _ _ _ _ _ _ _ _ _ _ _ _ _ _ _ _ _ _ _ _ _ _ _ _ _ _ _ _ _ _ _ _ _ _ _ _ _ _ _ _ _ _ _ _ _ _ _ _ _ _ _ _ _ _ _ _ _ _ _ _ _ _ _ _ _ _ _ _ _ _ _ _ _ _ _ _ _ _ _ _ _ _ _ _ _ _ _ _ _ _ _ _ _ _ _ _ _ _ _ _ _ _ _ _ _ _ _ _ _ _ _ _ _ _ _ _ _ _ _ _ _ _ _ _ _ _ _ _ _ _ _ _ _ _ _ _ _ _ _ _ _ _ _ _ _ _ _ _ _ _ _ _ _ _ _ _ _ _ _ _ _ _ _ _ _ _ _ _ _ _ _ _ _ _ _ _ _ _ _ _ _ _ _ _ _ _ _ _ _ _ _ _ _ _ _ _ _ (HE.out.later hb) (HV.out.later hb) (HM.out.later hb) (HBk.out.later hb) (HEn.out.later hb) (HPs.out.later hb) (HRC.out.later hb) HEV.out (own_base HOWN.out HE.out.below.size) (.inr (.inr (.inr ⟨HME.out, by omega, rfl, by rw [HYk.out, hkk, List.take_length]⟩)))
  · rw [decide_eq_false hme] at hps
    subst hps
    go_wp2_with fail
    refine hK.out _ _ ?_
    exact HN.out _ S Pa La _ _ _ _ _ _ _ _ M _ _ b _ _ Bs E kb Mb G Wt want X ch pr hm0 bp bl BP BL gv gok gs n ev false _ _ [] _ _ _ _ _ _ _ _ _ _ _ _ _ _ _ _ _ _ _ _ _ _ _ _ _ _ _ _ _ _ _ _ _ _ _ _ _ _ _ _ _ _ _ _ _ _ _ _ _ _ _ _ _ _ _ _ _ _ _ _ _ _ _ _ _ _ _ _ _ _ _ _ _ _ _ _ _ _ _ _ _ _ _ _ _ _ _ _ _ _ _ _ _ _ _ _ _ _ _ _ _ _ _ _ _ _ _ _ _ _ _ _ _ _ _ _ _ _ _ _ _ _ _ _ _ _ _ _ _ _ _ _ _ _ _ _ _ _ _ _ _ _ _ _ _ _ _ _ _ _ _ _ _ _ _ _ _ _ _ _ _ _ _ _ _ _ _ _ _ _ _ _ _ _ _ _ _ _ _ _ _ _ _ _ _ _ _ _ _ _ _ _ _ _ _ _ _ _ _ _ _ _ _ _ _ _ _ _ _ _ _ _ _ _ _ _ _ _ _ _ _ _ _ _ _ _ _ _ _ _ _ _ _ _ _ _ _ _ _ _ _ _ _ _ _ _ _ _ _ _ _ _ _ _ _ _ _ _ _ _ _ _ _ _ _ _ _ _ _ _ _ _ _ _ _ _ _ _ _ _ _ _ _ _ _ _ _ _ _ _ _ _ _ _ _ _ _ _ _ _ _ _ _ _ _ _ _ _ _ _ _ _ _ _ _ _ _ _ _ _ _ _ _ _ _ _ _ _ _ _ _ _ _ _ _ _ _ _ _ _ _ _ _ _ _ _ _ _ _ _ _ _ _ _ _ _ _ _ _ _ _ _ _ _ _ _ _ _ _ _ _ _ _ _ _ _ _ _ _ _ _ _ _ _ _ _ _ _ _ _ _ _ _ _ _ _ _ HE.out HV.out HM.out HBk.out HEn.out HPs.out HRC.out HEV.out (OwnI.nil _ _) (.inl ⟨hme, rfl, rfl⟩)
end Go.Proofs.YbulkcvteFmt

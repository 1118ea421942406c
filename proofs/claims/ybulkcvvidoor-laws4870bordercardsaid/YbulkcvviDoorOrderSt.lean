/- LawS4870BOrder: what stands behind i rounds of its first loop. -/
import Derived.Test.YbulkcvviDoorStartG
import Derived.Test.YbulkcvviDoorPre
namespace Go.Proofs.YbulkcvviDoor
open Go.RowKit
set_option linter.unusedVariables false

theorem blk_ne {w : World} {a b ta tb : Nat} {ca cb : List Value} (ha : Blk w a ta ca) (hb : Blk w b tb cb) (h : ta ≠ tb) : a ≠ b := by
  rintro rfl
  unfold Blk at ha hb
  rw [ha] at hb
  simp at hb
  exact h hb.2
theorem own_ne {w : World} {B e k n B2 e2 k2 n2 : Nat} {v v2 : Value} {xs ys : List Value} (h : w.ownsRow B e k v n xs) (h2 : w.ownsRow B2 e2 k2 v2 n2 ys) (hne : e ≠ e2) : v.ownBlock = none ∨ v.ownBlock ≠ v2.ownBlock := by
  obtain ⟨_, ⟨rfl, _⟩ | ⟨g, cap, cur, rfl, _, hh, _⟩⟩ := h
  · exact .inl rfl
  · right
    intro hv
    obtain ⟨_, ⟨rfl, _⟩ | ⟨g2, cap2, cur2, rfl, _, hh2, _⟩⟩ := h2
    · simp [Value.ownBlock] at hv
    · simp [Value.ownBlock] at hv; subst hv; rw [hh] at hh2; simp at hh2; exact hne hh2.2

def cnt (lk : Nat → Bool) : Nat → Nat
  | 0 => 0
  | i + 1 => cnt lk i + cntL (lk i)
def upd (f : Nat → Nat) (i x : Nat) : Nat → Nat := fun k => if k = i then x else f k
theorem upd_at (f : Nat → Nat) (i x : Nat) : upd f i x i = x := by simp [upd]
theorem upd_ne (f : Nat → Nat) (i x k : Nat) (h : k ≠ i) : upd f i x k = f k := by simp [upd, h]

/-- The row of transactions: the first i are laid. -/
def Sb (w : World) (S N i : Nat) (Tf : Nat → Nat) : Prop :=
  ∃ tsl, Blk w S 71 tsl ∧ tsl.length = N ∧ (∀ k, k < i → tsl[k]? = some (.pointer (some ⟨Tf k, 0, none⟩))) ∧ ∀ k, i ≤ k → k < N → tsl[k]? = some (.pointer none)
theorem Sb.to {w w' : World} {S N i : Nat} {Tf : Nat → Nat} (h : Sb w S N i Tf) (f : ∀ cs, Blk w S 71 cs → Blk w' S 71 cs) : Sb w' S N i Tf := by
  obtain ⟨tsl, h1, h2⟩ := h
  exact ⟨tsl, f _ h1, h2⟩
theorem Sb.put {w : World} {S N i : Nat} {Tf : Nat → Nat} (h : Sb w S N i Tf) (hi : i < N) (T : Nat) : Sb (w.setCell ⟨S, i, none⟩ (.pointer (some ⟨T, 0, none⟩))) S N (i + 1) (upd Tf i T) := by
  obtain ⟨tsl, h1, h2, h3, h4⟩ := h
  refine ⟨_, h1.set i _, by simpa using h2, fun k hk => ?_, fun k hk hN => ?_⟩
  · rw [List.getElem?_set]
    by_cases e : k = i
    · subst e; rw [if_pos rfl, if_pos (by omega), upd_at]
    · rw [if_neg (Ne.symm e), upd_ne _ _ _ _ e]; exact h3 k (by omega)
  · rw [List.getElem?_set, if_neg (by omega)]; exact h4 k (by omega) hN

/-- Behind i rounds: the DB, its two rows, the transactions and the waiters. -/
structure St (B D : Nat) (wts : Int) (lk : Nat → Bool) (w0 : World) (i : Nat) (cs tk : List Value) (L : List UInt8) (ado : Option Addr) (capo : Nat) (adw : Option Addr) (capw : Nat) (Tf Wf : Nat → Nat) (w : World) : Prop where
  hB : B ≤ w.heap.size
  hD : B ≤ D
  db : Blk w D 69 cs
  c80 : cs[1080]? = some (.int .i64 (wrap64 (wts + i)))
  c83 : cs[1083]? = some (.slice adw (cnt lk i) capw)
  c84 : cs[1084]? = some (.slice ado L.length capo)
  c87 : cs[1087]? = some (.bool false)
  wk : w.ownsRow B 28 5 (.slice adw (cnt lk i) capw) (cnt lk i) tk
  out : w.ownsRow B 5 1 (.slice ado L.length capo) L.length (Lib.byteCells L)
  below : Below B w0 w
  tx : ∀ k, k < i → ∃ tc wc, Blk w (Tf k) 78 tc ∧ tc[13]? = some (.pointer (some ⟨Wf k, 0, none⟩)) ∧ Blk w (Wf k) 84 wc ∧ wc[0]? = some (.pointer (some ⟨Tf k, 0, none⟩)) ∧ wc[7]? = some (.int .i64 (wrap64 (wts + k + 1)))
  tkw : ∀ k, k < i → lk k = true → tk[cnt lk k * 5 + 2]? = some (.pointer (some ⟨Wf k, 0, none⟩))

section
variable {B D : Nat} {wts : Int} {lk : Nat → Bool} {w0 : World} {i : Nat} {cs tk : List Value} {L : List UInt8} {ado : Option Addr} {capo : Nat} {adw : Option Addr} {capw : Nat} {Tf Wf : Nat → Nat} {w w' : World}

theorem St.later (h : St B D wts lk w0 i cs tk L ado capo adw capw Tf Wf w) (hb : Below w.heap.size w w') : St B D wts lk w0 i cs tk L ado capo adw capw Tf Wf w' := by
  refine ⟨Nat.le_trans h.hB hb.size, h.hD, h.db.below hb h.db.lt, h.c80, h.c83, h.c84, h.c87, own_later5 h.wk hb, own_later5 h.out hb, h.below.trans (hb.mono h.hB), fun k hk => ?_, h.tkw⟩
  obtain ⟨tc, wc, h1, h2, h3, h4, h5⟩ := h.tx k hk
  exact ⟨tc, wc, h1.below hb h1.lt, h2, h3.below hb h3.lt, h4, h5⟩

theorem St.setS (h : St B D wts lk w0 i cs tk L ado capo adw capw Tf Wf w) {S : Nat} {tsl : List Value} (hS : Blk w S 71 tsl) (hBS : B ≤ S) (j : Nat) (u : Value) : St B D wts lk w0 i cs tk L ado capo adw capw Tf Wf (w.setCell ⟨S, j, none⟩ u) := by
  refine ⟨by rw [size_setCell]; exact h.hB, h.hD, h.db.other (blk_ne h.db hS (by decide)) _, h.c80, h.c83, h.c84, h.c87, own_set h.wk hS (by decide) _ _, own_set h.out hS (by decide) _ _, h.below.setCell hBS _, fun k hk => ?_, h.tkw⟩
  obtain ⟨tc, wc, h1, h2, h3, h4, h5⟩ := h.tx k hk
  exact ⟨tc, wc, h1.other (blk_ne h1 hS (by decide)) _, h2, h3.other (blk_ne h3 hS (by decide)) _, h4, h5⟩

/-- Another row of bytes grows. -/
theorem St.grew (h : St B D wts lk w0 i cs tk L ado capo adw capw Tf Wf w) {ex ex' : Value} {n : Nat} {xs : List Value} (hex : w.ownsRow B 5 1 ex n xs) (hne : ∀ k, ex.ownBlock = some k → (Value.slice ado L.length capo).ownBlock ≠ some k) (hg : Grew ex ex' w w') :
    St B D wts lk w0 i cs tk L ado capo adw capw Tf Wf w' ∧ ∀ k, ex'.ownBlock = some k → (Value.slice ado L.length capo).ownBlock ≠ some k := by
  refine ⟨⟨Nat.le_trans h.hB hg.by'.size, h.hD, h.db.grown hg.by' (own_ne5 hex h.db (by decide)), h.c80, h.c83, h.c84, h.c87, h.wk.kept hg.by' (own_ne h.wk hex (by decide)), h.out.kept hg.by' ?_, h.below.trans (hg.below hex h.hB), fun k hk => ?_, h.tkw⟩, fun k hk => ?_⟩
  · cases e : ex.ownBlock with
    | none =>
      cases e2 : (Value.slice ado L.length capo).ownBlock with
      | none => exact .inl rfl
      | some k => exact .inr (by intro h; cases h)
    | some k => exact .inr (hne k e)
  · obtain ⟨tc, wc, h1, h2, h3, h4, h5⟩ := h.tx k hk
    exact ⟨tc, wc, h1.grown hg.by' (own_ne5 hex h1 (by decide)), h2, h3.grown hg.by' (own_ne5 hex h3 (by decide)), h4, h5⟩
  · rcases hg.at' k hk with e | e
    · exact hne k e
    · intro e2
      have := (h.out.lt k e2).2
      omega

theorem wrap_next (a : Int) (i : Nat) : wrap64 (wrap64 (a + i) + 1) = wrap64 (a + (i + 1 : Nat)) := by
  unfold wrap64; omega

/-- One wait begun. -/
theorem St.next (h : St B D wts lk w0 i cs tk L ado capo adw capw Tf Wf w) {T Wt : Nat} {s : ByteArray} {v val : Int} {ts cs' : List Value} {ad ad2 : Option Addr} {cap cap2 : Nat}
    (hSp : SpG B D T L.length (cnt lk i) (.slice ado L.length capo) s v val (lk i) ts (Lib.byteCells L) tk (wrap64 (wrap64 (wts + i) + 1)) Wt w w' cs' ad cap ad2 cap2) (hT : ∀ k, k < i → Tf k ≠ T) (h13 : 13 < ts.length) (hTt : ∃ tc, Blk w T 78 tc) :
    St B D wts lk w0 (i + 1) cs' (tk ++ tskL (lk i) Wt) (L ++ lineL s (lk i) v) ad cap ad2 cap2 (upd Tf i T) (upd Wf i Wt) w' := by
  have hl : (L ++ lineL s (lk i) v).length = L.length + (lineL s (lk i) v).length := List.length_append
  obtain ⟨tcT, hTb⟩ := hTt
  refine ⟨Nat.le_trans h.hB hSp.below.size, h.hD, hSp.db, ?_, hSp.work, ?_, hSp.ex, hSp.wk, ?_, h.below.trans hSp.below, fun k hk => ?_, fun k hk hlk => ?_⟩
  · rw [hSp.seq, wrap_next]
  · rw [hl]; exact hSp.out
  · rw [hl, bytes_app]; exact hSp.own
  · by_cases e : k = i
    · subst e
      rw [upd_at, upd_at]
      refine ⟨_, _, hSp.tx, ?_, hSp.wt, rfl, ?_⟩
      · rw [List.getElem?_set, if_pos rfl, if_pos h13]
      · have := wrap_next wts k
        simp only [wtC]
        rw [this]
        simp [Int.add_assoc]
    · rw [upd_ne _ _ _ _ e, upd_ne _ _ _ _ e]
      obtain ⟨tc, wc, h1, h2, h3, h4, h5⟩ := h.tx k (by omega)
      exact ⟨tc, wc, hSp.kept _ _ _ h1 (fun e => own_ne5 h.out h1 (by decide) e.symm) (by decide) (blk_ne h1 h.db (by decide)) (hT k (by omega)), h2, hSp.kept _ _ _ h3 (fun e => own_ne5 h.out h3 (by decide) e.symm) (by decide) (blk_ne h3 h.db (by decide)) (blk_ne h3 hTb (by decide)), h4, h5⟩
  · by_cases e : k = i
    · subst e
      rw [upd_at, hlk]
      have hlen : tk.length = cnt lk k * 5 := h.wk.1
      exact tsk_last hlen 2 rfl
    · rw [upd_ne _ _ _ _ e]
      exact app_get (h.tkw k (by omega) hlk)
/-- The other row of bytes stands behind it. -/
theorem St.nextEx (h : St B D wts lk w0 i cs tk L ado capo adw capw Tf Wf w) {T Wt : Nat} {s : ByteArray} {v val sq : Int} {ts cs' : List Value} {ad ad2 : Option Addr} {cap cap2 : Nat}
    (hSp : SpG B D T L.length (cnt lk i) (.slice ado L.length capo) s v val (lk i) ts (Lib.byteCells L) tk sq Wt w w' cs' ad cap ad2 cap2) (hTt : ∃ tc, Blk w T 78 tc)
    {ex : Value} {n : Nat} {xs : List Value} (hex : w.ownsRow B 5 1 ex n xs) (hne : ∀ k, ex.ownBlock = some k → (Value.slice ado L.length capo).ownBlock ≠ some k) :
    w'.ownsRow B 5 1 ex n xs ∧ ∀ k, ex.ownBlock = some k → (Value.slice ad (L.length + (lineL s (lk i) v).length) cap).ownBlock ≠ some k := by
  obtain ⟨tcT, hTb⟩ := hTt
  refine ⟨?_, fun k hk e => ?_⟩
  · obtain ⟨hl, ⟨rfl, rfl⟩ | ⟨g, c, cur, rfl, hg, hh, hr⟩⟩ := hex
    · exact ⟨hl, .inl ⟨rfl, rfl⟩⟩
    · have hb : Blk w g 5 cur.toList := by unfold Blk; simpa using hh
      have := hSp.kept g 5 _ hb (fun e => hne g rfl e.symm) (by decide) (blk_ne hb h.db (by decide)) (blk_ne hb hTb (by decide))
      exact ⟨hl, .inr ⟨g, c, cur, rfl, hg, by unfold Blk at this; simpa using this, hr⟩⟩
  · rcases hSp.loc k e with e | e
    · exact hne k hk e
    · have := (hex.lt k hk).2
      omega
end
end Go.Proofs.YbulkcvviDoor

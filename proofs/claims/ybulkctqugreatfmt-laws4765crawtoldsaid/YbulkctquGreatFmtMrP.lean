/-
  Plainly: misread on any history that breaks no rule: what its passing an event tells.
-/
import Derived.Test.YbulkctquGreatFmtMisP
import Derived.Test.YbulkctquGreatFmtVrP
namespace Go.Proofs.YbulkctquGreatFmt
open Go.ChangeShapes Go.WideShapes Go.ChangeAt Go.RowKit Go.Ord
set_option linter.unusedVariables false

/-- What one read of a committed transaction must keep to, the commit of its writer aside. -/
structure RE (hs : List (List Tx)) (s k e : Nat) (v : Ev) : Prop where
  own : v.i = false → ∀ e' x, At hs s k e' x → x.k = 1 → x.v = v.v → e' < e ∧ ∀ e'' x', e' < e'' → e'' < e → At hs s k e'' x' → x'.k = 1 → x'.x ≠ v.x
  oth : v.i = false → ∀ s' k' e' x, At hs s' k' e' x → x.k = 1 → x.v = v.v → ¬ (s' = s ∧ k' = k) → (∀ e'' x', e'' < e → At hs s k e'' x' → x'.k = 1 → x'.x ≠ v.x) ∧ (∀ e'' x', e' < e'' → At hs s' k' e'' x' → x'.k = 1 → x'.x ≠ x.x)
  ini : v.i = true → ∀ e'' x', e'' < e → At hs s k e'' x' → x'.k = 1 → x'.x ≠ v.x
  same : (∀ e'' x', e'' < e → At hs s k e'' x' → x'.k = 1 → x'.x ≠ v.x) → ∀ e' v', e' < e → At hs s k e' v' → v'.k = 0 → v'.x = v.x → v'.i = v.i ∧ v'.v = v.v
def RU (hs : List (List Tx)) (s k e : Nat) : Prop := ∀ s' k' e' v, At hs s' k' e' v → Bef s k e s' k' e' → Cm hs s' k' → v.k = 0 → RE hs s' k' e' v
/-- Reads of a version that was not committed. -/
def Unc (hs : List (List Tx)) (F : Nat → Option Wr) (s k e : Nat) (q : Wr) : Prop := ∃ v, At hs s k e v ∧ Cm hs s k ∧ v.k = 0 ∧ v.i = false ∧ F v.v = some q ∧ ¬ Cm hs q.s q.k
def RC (hs : List (List Tx)) (F : Nat → Option Wr) (s k e : Nat) : Prop := ∀ s' k' e' q, Bef s k e s' k' e' → ¬ Unc hs F s' k' e' q
structure TM (hs : List (List Tx)) (s k e : Nat) (T : Nat → Option Tc) : Prop where
  ti : TI hs s k e T
  sm : ∀ (e' : Nat) (x : Ev), e' < e → At hs s k e' x → x.k = 0 → (∀ e'' x', e'' < e' → At hs s k e'' x' → x'.k = 1 → x'.x ≠ x.x) → (tcOf T x.x).rd = true ∧ ∃ y, At hs s k (tcOf T x.x).f y ∧ y.i = x.i ∧ y.v = x.v
section
variable {hs : List (List Tx)} {F : Nat → Option Wr} {s k e : Nat} {T : Nat → Option Tc} {v : Ev}
theorem RU.start : RU hs 0 0 0 := fun _ _ _ _ _ h => (bef_zero h).elim
theorem RU.step (h : RU hs s k e) (ha : At hs s k e v) (hr : v.k = 0 → RE hs s k e v) : RU hs s k (e + 1) := fun s' k' e' x q1 q2 q3 q4 => by
  rcases bef_step q2 with q | ⟨rfl, rfl, rfl⟩
  · exact h _ _ _ _ q1 q q3 q4
  · have := q1.same ha; subst this; exact hr q4
theorem RU.nextTxn {l : List Tx} {t : Tx} (hl : hs[s]? = some l) (ht : l[k]? = some t) (h : RU hs s k t.evs.length) : RU hs s (k + 1) 0 := fun _ _ _ _ q1 q2 => h _ _ _ _ q1 (bef_txn hl ht q1 q2)
theorem RU.skip {l : List Tx} {t : Tx} (hl : hs[s]? = some l) (ht : l[k]? = some t) (hc : t.com = false) (h : RU hs s k 0) : RU hs s (k + 1) 0 := fun s' k' e' x q1 q2 q3 q4 => by
  have q := bef_txn hl ht q1 q2
  by_cases c : s' = s ∧ k' = k
  · obtain ⟨rfl, rfl⟩ := c
    obtain ⟨l', t', h1, h2, h3⟩ := q3
    rw [hl] at h1; injection h1 with h1; subst h1
    rw [ht] at h2; injection h2 with h2; subst h2
    rw [hc] at h3; cases h3
  · exact h _ _ _ _ q1 (by unfold Bef at q ⊢; omega) q3 q4
theorem RU.nextSes {l : List Tx} (hl : hs[s]? = some l) (h : RU hs s l.length 0) : RU hs (s + 1) 0 0 := fun _ _ _ _ q1 q2 => h _ _ _ _ q1 (bef_ses hl q1 q2)
theorem ROk.of (W : WF hs F) (h : RU hs hs.length 0 0) (hc : RC hs F hs.length 0 0) : ROk hs := by
  refine ⟨fun s k e v ha hcm hk hi s' k' e' x hx hxk hxv => ?_, fun s k e v ha hcm hk hi => (h _ _ _ _ ha (bef_all ha) hcm hk).own hi, fun s k e v ha hcm hk hi => (h _ _ _ _ ha (bef_all ha) hcm hk).oth hi, fun s k e v ha hcm hk hi => (h _ _ _ _ ha (bef_all ha) hcm hk).ini hi, fun s k e v ha hcm hk => (h _ _ _ _ ha (bef_all ha) hcm hk).same⟩
  obtain ⟨q, q1, q2, q3, q4⟩ := W.bwd _ _ _ _ hx hxk
  apply Classical.byContradiction
  intro hn
  exact hc s k e q (bef_all ha) ⟨v, ha, hcm, hk, hi, by rw [← hxv]; exact q1, by rw [q2, q3]; exact hn⟩
theorem RC.start : RC hs F 0 0 0 := fun _ _ _ _ h => (bef_zero h).elim
theorem RC.step (h : RC hs F s k e) (hn : ∀ q, ¬ Unc hs F s k e q) : RC hs F s k (e + 1) := fun s' k' e' q h1 => by
  rcases bef_step h1 with h1 | ⟨rfl, rfl, rfl⟩
  · exact h _ _ _ _ h1
  · exact hn q
theorem RC.nextTxn {l : List Tx} {t : Tx} (hl : hs[s]? = some l) (ht : l[k]? = some t) (h : RC hs F s k t.evs.length) : RC hs F s (k + 1) 0 := fun _ _ _ _ h1 h2 => by
  obtain ⟨v, a, b⟩ := h2
  exact h _ _ _ _ (bef_txn hl ht a h1) ⟨v, a, b⟩
theorem RC.skip {l : List Tx} {t : Tx} (hl : hs[s]? = some l) (ht : l[k]? = some t) (hc : t.com = false) (h : RC hs F s k 0) : RC hs F s (k + 1) 0 := fun s' k' e' q h1 h2 => by
  obtain ⟨v, a, b, c⟩ := h2
  have q2 := bef_txn hl ht a h1
  by_cases cc : s' = s ∧ k' = k
  · obtain ⟨rfl, rfl⟩ := cc
    obtain ⟨l', t', h1, h2, h3⟩ := b
    rw [hl] at h1; injection h1 with h1; subst h1
    rw [ht] at h2; injection h2 with h2; subst h2
    rw [hc] at h3; cases h3
  · exact h _ _ _ _ (by unfold Bef at q2 ⊢; omega) ⟨v, a, b, c⟩
theorem RC.nextSes {l : List Tx} (hl : hs[s]? = some l) (h : RC hs F s l.length 0) : RC hs F (s + 1) 0 0 := fun _ _ _ _ h1 h2 => by
  obtain ⟨v, a, b⟩ := h2
  exact h _ _ _ _ (bef_ses hl a h1) ⟨v, a, b⟩
theorem TM.start (hs : List (List Tx)) (s k : Nat) : TM hs s k 0 (fun _ => none) := ⟨TI.start hs s k, fun e' x h => by omega⟩
theorem TM.pass (h : TM hs s k e T) (ha : At hs s k e v) (hv : v.k = 0) (hs' : (∀ e'' x', e'' < e → At hs s k e'' x' → x'.k = 1 → x'.x ≠ v.x) → (tcOf T v.x).rd = true ∧ ∃ y, At hs s k (tcOf T v.x).f y ∧ y.i = v.i ∧ y.v = v.v) : TM hs s k (e + 1) T := by
  refine ⟨h.ti.pass ha hv, fun e' x h1 h2 h3 h4 => ?_⟩
  by_cases q : e' = e
  · subst q; have := h2.same ha; subst this; exact hs' h4
  · exact h.sm e' x (by omega) h2 h3 h4
theorem TM.write (h : TM hs s k e T) (ha : At hs s k e v) (hv : v.k = 1) : TM hs s k (e + 1) (tset T v.x ⟨true, (tcOf T v.x).rd, e, (tcOf T v.x).f⟩) := by
  refine ⟨h.ti.write ha hv, fun e' x h1 h2 h3 h4 => ?_⟩
  by_cases q : e' = e
  · subst q; have := h2.same ha; subst this; omega
  · have := h.sm e' x (by omega) h2 h3 h4
    by_cases q2 : x.x = v.x
    · rw [q2] at this ⊢; rw [tcOf_same]; exact this
    · rw [tcOf_other _ _ q2]; exact this
theorem TM.mark (h : TM hs s k e T) (ha : At hs s k e v) (hv : v.k = 0) (hr : (tcOf T v.x).rd = false) : TM hs s k (e + 1) (tset T v.x ⟨(tcOf T v.x).wr, true, (tcOf T v.x).w, e⟩) := by
  refine ⟨h.ti.mark ha hv, fun e' x h1 h2 h3 h4 => ?_⟩
  by_cases q : e' = e
  · subst q; have := h2.same ha; subst this
    rw [tcOf_same]; exact ⟨rfl, x, ha, rfl, rfl⟩
  · have := h.sm e' x (by omega) h2 h3 h4
    by_cases q2 : x.x = v.x
    · rw [q2, hr] at this; exact absurd this.1 (by simp)
    · rw [tcOf_other _ _ q2]; exact this
/-- No write of the variable so far, as the walk finds it. -/
theorem TI.none {y : Nat} (h : TI hs s k e T) (hw : (tcOf T y).wr = false) : ∀ e'' x', e'' < e → At hs s k e'' x' → x'.k = 1 → x'.x ≠ y := fun e'' x' h1 h2 h3 h4 => by
  have := (h.wl e'' x' h1 h2 h3).1
  rw [h4, hw] at this; cases this
/-- A read of its own transaction's version that passes. -/
theorem RE.ofOwn (O : HOk hs) (W : WF hs F) (h : TM hs s k e T) (ha : At hs s k e v) (hk : v.k = 0) (hi : v.i = false) {q : Wr} (hq : F v.v = some q) (h1 : q.s = s) (h2 : q.k = k) (h3 : q.e ≤ e) (h4 : (tcOf T v.x).w = q.e) : RE hs s k e v := by
  obtain ⟨x, a1, a2, a3, _⟩ := W.fwd _ _ hq
  rw [h1, h2] at a1
  obtain ⟨q', x', r1, r2, r3, r4, r5⟩ := W.read O ha hk hi
  rw [hq] at r1; injection r1 with r1; subst r1
  rw [h1, h2] at r2
  have := r2.same a1; subst this
  have hlt : q.e < e := by
    by_cases c : q.e = e
    · rw [c] at a1; have := a1.same ha; subst this; omega
    · omega
  have uq : ∀ s' k' e' y, At hs s' k' e' y → y.k = 1 → y.v = v.v → s' = s ∧ k' = k ∧ e' = q.e := fun s' k' e' y b1 b2 b3 => O.uniq _ _ _ _ _ _ _ _ b1 a1 b2 a2 (by omega)
  refine ⟨fun _ e' y b1 b2 b3 => ?_, fun _ s' k' e' y b1 b2 b3 b4 => ?_, fun hii => ?_, fun hn => ?_⟩
  · obtain ⟨_, _, rfl⟩ := uq _ _ _ _ b1 b2 b3
    refine ⟨hlt, fun e'' y' c1 c2 c3 c4 c5 => ?_⟩
    have := (h.ti.wl e'' y' c2 c3 c4).2
    rw [c5] at this; omega
  · obtain ⟨c1, c2, _⟩ := uq _ _ _ _ b1 b2 b3
    exact absurd ⟨c1, c2⟩ b4
  · rw [hi] at hii; cases hii
  · exact absurd r5 (hn q.e x' hlt a1 a2)
/-- The reads of a variable before any write of it are the same. -/
theorem TM.agree (h : TM hs s k e T) (hag : (tcOf T v.x).rd = true → ∃ y, At hs s k (tcOf T v.x).f y ∧ y.i = v.i ∧ y.v = v.v) (hn : ∀ e'' x', e'' < e → At hs s k e'' x' → x'.k = 1 → x'.x ≠ v.x) : ∀ e' v', e' < e → At hs s k e' v' → v'.k = 0 → v'.x = v.x → v'.i = v.i ∧ v'.v = v.v := fun e' v' h1 h2 h3 h4 => by
  obtain ⟨r1, y, r2, r3, r4⟩ := h.sm e' v' h1 h2 h3 (fun e'' x' c1 c2 c3 => by rw [h4]; exact hn e'' x' (by omega) c2 c3)
  rw [h4] at r1 r2
  obtain ⟨y', p1, p2, p3⟩ := hag r1
  have := r2.same p1; subst this
  exact ⟨by rw [← r3, p2], by rw [← r4, p3]⟩
/-- A read of another's version that passes. -/
theorem RE.ofOther (O : HOk hs) (W : WF hs F) (h : TM hs s k e T) (ha : At hs s k e v) (hk : v.k = 0) (hi : v.i = false) {q : Wr} (hq : F v.v = some q) (h1 : ¬ (q.s = s ∧ q.k = k)) (h2 : q.n < 0) (h3 : (tcOf T v.x).wr = false) (hag : (tcOf T v.x).rd = true → ∃ y, At hs s k (tcOf T v.x).f y ∧ y.i = v.i ∧ y.v = v.v) : RE hs s k e v := by
  obtain ⟨x, a1, a2, a3, a4⟩ := W.fwd _ _ hq
  have uq : ∀ s' k' e' y, At hs s' k' e' y → y.k = 1 → y.v = v.v → s' = q.s ∧ k' = q.k ∧ e' = q.e := fun s' k' e' y b1 b2 b3 => O.uniq _ _ _ _ _ _ _ _ b1 a1 b2 a2 (by omega)
  have hn := h.ti.none h3
  refine ⟨fun _ e' y b1 b2 b3 => ?_, fun _ s' k' e' y b1 b2 b3 b4 => ⟨hn, ?_⟩, fun hii => ?_, fun _ => h.agree hag hn⟩
  · obtain ⟨c1, c2, _⟩ := uq _ _ _ _ b1 b2 b3
    exact absurd ⟨c1.symm, c2.symm⟩ h1
  · obtain ⟨rfl, rfl, rfl⟩ := uq _ _ _ _ b1 b2 b3
    have := b1.same a1; subst this
    rcases a4 with ⟨_, a4⟩ | ⟨e2, x2, a4, _⟩
    · exact fun e'' x' c1 c2 c3 => a4 e'' x' c1 c2 c3
    · omega
  · rw [hi] at hii; cases hii
/-- An initial read that passes. -/
theorem RE.ofInit (h : TM hs s k e T) (hi : v.i = true) (h3 : (tcOf T v.x).wr = false) (hag : (tcOf T v.x).rd = true → ∃ y, At hs s k (tcOf T v.x).f y ∧ y.i = v.i ∧ y.v = v.v) : RE hs s k e v := by
  have hn := h.ti.none h3
  exact ⟨(fun q => by rw [hi] at q; cases q), (fun q => by rw [hi] at q; cases q), fun _ => hn, fun _ => h.agree hag hn⟩
end
end Go.Proofs.YbulkctquGreatFmt

/-
  What misread asks, plainly.
-/
import Derived.Test.YbulkctquGreatFmtVersP
namespace Go.Proofs.YbulkctquGreatFmt
open Go.ChangeShapes Go.WideShapes Go.ChangeAt Go.RowKit Go.Ord
set_option linter.unusedVariables false

def Cm (hs : List (List Tx)) (s k : Nat) : Prop := ∃ l t, hs[s]? = some l ∧ l[k]? = some t ∧ t.com = true
/-- Reads that no serial order rules out by themselves. -/
structure ROk (hs : List (List Tx)) : Prop where
  com : ∀ s k e v, At hs s k e v → Cm hs s k → v.k = 0 → v.i = false → ∀ s' k' e' x, At hs s' k' e' x → x.k = 1 → x.v = v.v → Cm hs s' k'
  own : ∀ s k e v, At hs s k e v → Cm hs s k → v.k = 0 → v.i = false → ∀ e' x, At hs s k e' x → x.k = 1 → x.v = v.v → e' < e ∧ ∀ e'' x', e' < e'' → e'' < e → At hs s k e'' x' → x'.k = 1 → x'.x ≠ v.x
  oth : ∀ s k e v, At hs s k e v → Cm hs s k → v.k = 0 → v.i = false → ∀ s' k' e' x, At hs s' k' e' x → x.k = 1 → x.v = v.v → ¬ (s' = s ∧ k' = k) → (∀ e'' x', e'' < e → At hs s k e'' x' → x'.k = 1 → x'.x ≠ v.x) ∧ (∀ e'' x', e' < e'' → At hs s' k' e'' x' → x'.k = 1 → x'.x ≠ x.x)
  ini : ∀ s k e v, At hs s k e v → Cm hs s k → v.k = 0 → v.i = true → ∀ e'' x', e'' < e → At hs s k e'' x' → x'.k = 1 → x'.x ≠ v.x
  same : ∀ s k e v, At hs s k e v → Cm hs s k → v.k = 0 → (∀ e'' x', e'' < e → At hs s k e'' x' → x'.k = 1 → x'.x ≠ v.x) → ∀ e' v', e' < e → At hs s k e' v' → v'.k = 0 → v'.x = v.x → v'.i = v.i ∧ v'.v = v.v
structure Tc where
  wr : Bool
  rd : Bool
  w : Nat
  f : Nat
def Tc.val (c : Tc) : Value := .agg #[.bool c.wr, .bool c.rd, .int .i64 c.w, .int .i64 c.f]
def tcOf (T : Nat → Option Tc) (y : Nat) : Tc := (T y).getD ⟨false, false, 0, 0⟩
def tset (T : Nat → Option Tc) (y : Nat) (c : Tc) : Nat → Option Tc := fun y' => if y' = y then some c else T y'
theorem tcOf_val (T : Nat → Option Tc) (y : Nat) : ((T y).map Tc.val).getD (.agg #[.bool false, .bool false, .int .i64 0, .int .i64 0]) = (tcOf T y).val := by
  unfold tcOf
  cases T y <;> rfl
theorem tcOf_same (T : Nat → Option Tc) (y : Nat) (c : Tc) : tcOf (tset T y c) y = c := by simp [tcOf, tset]
theorem tcOf_other (T : Nat → Option Tc) {y y' : Nat} (c : Tc) (h : y' ≠ y) : tcOf (tset T y c) y' = tcOf T y' := by simp [tcOf, tset, h]
structure TI (hs : List (List Tx)) (s k e : Nat) (T : Nat → Option Tc) : Prop where
  wt : ∀ y, (tcOf T y).wr = true → (tcOf T y).w < e ∧ ∃ x : Ev, At hs s k (tcOf T y).w x ∧ x.k = 1 ∧ x.x = y
  wl : ∀ (e' : Nat) (x : Ev), e' < e → At hs s k e' x → x.k = 1 → (tcOf T x.x).wr = true ∧ e' ≤ (tcOf T x.x).w
  rd : ∀ y, (tcOf T y).rd = true → (tcOf T y).f < e ∧ ∃ x : Ev, At hs s k (tcOf T y).f x ∧ x.k = 0 ∧ x.x = y
theorem TI.start (hs : List (List Tx)) (s k : Nat) : TI hs s k 0 (fun _ => none) :=
  ⟨fun y h => by simp [tcOf] at h, fun e' x h => by omega, fun y h => by simp [tcOf] at h⟩
theorem TI.pass {hs : List (List Tx)} {s k e : Nat} {T : Nat → Option Tc} (h : TI hs s k e T) {v : Ev} (ha : At hs s k e v) (hv : v.k = 0) : TI hs s k (e + 1) T := by
  refine ⟨fun y hy => ?_, fun e' x h1 h2 h3 => ?_, fun y hy => ?_⟩
  · have := h.wt y hy; exact ⟨by omega, this.2⟩
  · by_cases q : e' = e
    · subst q
      have := ha.same h2
      subst this; omega
    · exact h.wl e' x (by omega) h2 h3
  · have := h.rd y hy; exact ⟨by omega, this.2⟩
theorem TI.write {hs : List (List Tx)} {s k e : Nat} {T : Nat → Option Tc} (h : TI hs s k e T) {v : Ev} (ha : At hs s k e v) (hv : v.k = 1) : TI hs s k (e + 1) (tset T v.x ⟨true, (tcOf T v.x).rd, e, (tcOf T v.x).f⟩) := by
  refine ⟨fun y hy => ?_, fun e' x h1 h2 h3 => ?_, fun y hy => ?_⟩
  · by_cases q : y = v.x
    · subst q
      rw [tcOf_same]
      exact ⟨by simp, v, ha, hv, rfl⟩
    · rw [tcOf_other _ _ q] at hy ⊢
      have := h.wt y hy; exact ⟨by omega, this.2⟩
  · by_cases q : e' = e
    · subst q
      have := ha.same h2
      subst this
      rw [tcOf_same]
      simp
    · have := h.wl e' x (by omega) h2 h3
      by_cases q2 : x.x = v.x
      · rw [q2, tcOf_same]; exact ⟨rfl, by simp; omega⟩
      · rw [tcOf_other _ _ q2]; exact this
  · by_cases q : y = v.x
    · subst q
      rw [tcOf_same] at hy ⊢
      have := h.rd v.x hy; exact ⟨by simp; omega, this.2⟩
    · rw [tcOf_other _ _ q] at hy ⊢
      have := h.rd y hy; exact ⟨by omega, this.2⟩
theorem TI.mark {hs : List (List Tx)} {s k e : Nat} {T : Nat → Option Tc} (h : TI hs s k e T) {v : Ev} (ha : At hs s k e v) (hv : v.k = 0) : TI hs s k (e + 1) (tset T v.x ⟨(tcOf T v.x).wr, true, (tcOf T v.x).w, e⟩) := by
  refine ⟨fun y hy => ?_, fun e' x h1 h2 h3 => ?_, fun y hy => ?_⟩
  · by_cases q : y = v.x
    · subst q
      rw [tcOf_same] at hy ⊢
      have := h.wt v.x hy; exact ⟨by simp; omega, this.2⟩
    · rw [tcOf_other _ _ q] at hy ⊢
      have := h.wt y hy; exact ⟨by omega, this.2⟩
  · by_cases q : e' = e
    · subst q
      have := ha.same h2
      subst this; omega
    · have := h.wl e' x (by omega) h2 h3
      by_cases q2 : x.x = v.x
      · rw [q2, tcOf_same]; rw [q2] at this; exact this
      · rw [tcOf_other _ _ q2]; exact this
  · by_cases q : y = v.x
    · subst q
      rw [tcOf_same]
      exact ⟨by simp, v, ha, hv, rfl⟩
    · rw [tcOf_other _ _ q] at hy ⊢
      have := h.rd y hy; exact ⟨by omega, this.2⟩
/-- No write of the variable so far. -/
theorem TI.unwritten {hs : List (List Tx)} {s k e : Nat} {T : Nat → Option Tc} (h : TI hs s k e T) {y : Nat} (hn : ∀ e'' x', e'' < e → At hs s k e'' x' → x'.k = 1 → x'.x ≠ y) : (tcOf T y).wr = false := by
  cases hq : (tcOf T y).wr with
  | false => rfl
  | true =>
    obtain ⟨h1, x, h2, h3, h4⟩ := h.wt y hq
    exact absurd h4 (hn _ _ h1 h2 h3)
/-- What a read of a version finds. -/
theorem ROk.finds {hs : List (List Tx)} (h : ROk hs) (O : HOk hs) {F : Nat → Option Wr} (W : WF hs F) {s k e : Nat} {v : Ev} (ha : At hs s k e v) (hc : Cm hs s k) (hk : v.k = 0) (hi : v.i = false) :
    ∃ q, F v.v = some q ∧ Cm hs q.s q.k ∧ (q.s = s ∧ q.k = k → q.e < e ∧ ∀ T, TI hs s k e T → (tcOf T v.x).w = q.e) ∧ (¬ (q.s = s ∧ q.k = k) → q.n = -1 ∧ ∀ e'' x', e'' < e → At hs s k e'' x' → x'.k = 1 → x'.x ≠ v.x) := by
  obtain ⟨q, x, h1, h2, h3, h4, h5⟩ := W.read O ha hk hi
  refine ⟨q, h1, h.com s k e v ha hc hk hi _ _ _ _ h2 h3 h4, ?_, fun hn => ?_⟩
  · rintro ⟨h6, h7⟩
    rw [h6, h7] at h2
    obtain ⟨g1, g2⟩ := h.own s k e v ha hc hk hi _ _ h2 h3 h4
    refine ⟨g1, fun T ht => ?_⟩
    obtain ⟨r1, r2⟩ := ht.wl _ _ g1 h2 h3
    rw [h5] at r1 r2
    obtain ⟨p1, y, p2, p3, p4⟩ := ht.wt _ r1
    by_cases c : q.e = (tcOf T v.x).w
    · exact c.symm
    · exact absurd p4 (g2 _ _ (by omega) p1 p2 p3)
  · obtain ⟨g1, g2⟩ := h.oth s k e v ha hc hk hi _ _ _ _ h2 h3 h4 hn
    refine ⟨?_, g1⟩
    obtain ⟨x', r1, r2, r3, r4⟩ := W.fwd _ _ h1
    have := h2.same r1
    subst this
    rcases r4 with ⟨r4, _⟩ | ⟨e', y, p1, p2, p3, p4, p5⟩
    · exact r4
    · exact absurd p5 (g2 _ _ p2 p3 p4)
/-- The earlier read of the variable is the same. -/
theorem ROk.again {hs : List (List Tx)} (h : ROk hs) {s k e : Nat} {v : Ev} (ha : At hs s k e v) (hc : Cm hs s k) (hk : v.k = 0) (hn : ∀ e'' x', e'' < e → At hs s k e'' x' → x'.k = 1 → x'.x ≠ v.x) {T : Nat → Option Tc} (ht : TI hs s k e T) (hr : (tcOf T v.x).rd = true) :
    (tcOf T v.x).f < e ∧ ∃ y, At hs s k (tcOf T v.x).f y ∧ y.i = v.i ∧ y.v = v.v := by
  obtain ⟨h1, y, h2, h3, h4⟩ := ht.rd _ hr
  obtain ⟨g1, g2⟩ := h.same s k e v ha hc hk hn _ _ h1 h2 h3 h4
  exact ⟨h1, y, h2, g1, g2⟩
end Go.Proofs.YbulkctquGreatFmt

/-
  What versions() tells, plainly.
-/
import Derived.Test.YbulkctquGreatFmtEvent
namespace Go.Proofs.YbulkctquGreatFmt
open Go.ChangeShapes Go.WideShapes Go.ChangeAt Go.RowKit Go.Ord
set_option linter.unusedVariables false

def At (hs : List (List Tx)) (s k e : Nat) (v : Ev) : Prop := ∃ l t, hs[s]? = some l ∧ l[k]? = some t ∧ t.evs[e]? = some v
theorem At.same {hs : List (List Tx)} {s k e : Nat} {v v' : Ev} (h : At hs s k e v) (h' : At hs s k e v') : v = v' := by
  obtain ⟨l, t, h1, h2, h3⟩ := h
  obtain ⟨l', t', h1', h2', h3'⟩ := h'
  rw [h1] at h1'; cases h1'
  rw [h2] at h2'; cases h2'
  rw [h3] at h3'; cases h3'
  rfl
def Bef (s k e s' k' e' : Nat) : Prop := s' < s ∨ (s' = s ∧ (k' < k ∨ (k' = k ∧ e' < e)))
/-- A history that breaks no rule. -/
structure HOk (hs : List (List Tx)) : Prop where
  kind : ∀ s k e v, At hs s k e v → v.k = 0 ∨ v.k = 1
  wi : ∀ s k e v, At hs s k e v → v.k = 1 → v.i = false
  uniq : ∀ s k e v s' k' e' v', At hs s k e v → At hs s' k' e' v' → v.k = 1 → v'.k = 1 → v.v = v'.v → s = s' ∧ k = k' ∧ e = e'
  reads : ∀ s k e v, At hs s k e v → v.k = 0 → v.i = false → ∃ s' k' e' v', At hs s' k' e' v' ∧ v'.k = 1 ∧ v'.v = v.v ∧ v'.x = v.x
  small : hs.length < 90
  small2 : ∀ l ∈ hs, l.length < 90
  small3 : ∀ l ∈ hs, ∀ t ∈ l, t.evs.length < 1000
structure Wr where
  s : Nat
  k : Nat
  e : Nat
  n : Int
def Wr.val (q : Wr) : Value := .agg #[.int .i64 q.s, .int .i64 q.k, .int .i64 q.e, .int .i64 q.n]
structure WI (hs : List (List Tx)) (s k e : Nat) (F : Nat → Option Wr) (L : Nat → Option Nat) : Prop where
  fwd : ∀ v q, F v = some q → Bef s k e q.s q.k q.e ∧ ∃ x, At hs q.s q.k q.e x ∧ x.k = 1 ∧ x.v = v ∧ ((q.n = -1 ∧ ∀ e' x', Bef s k e q.s q.k e' → q.e < e' → At hs q.s q.k e' x' → x'.k = 1 → x'.x ≠ x.x) ∨ (∃ (e' : Nat) (x' : Ev), q.n = (e' : Int) ∧ q.e < e' ∧ At hs q.s q.k e' x' ∧ x'.k = 1 ∧ x'.x = x.x))
  bwd : ∀ s' k' e' x, At hs s' k' e' x → Bef s k e s' k' e' → x.k = 1 → ∃ q, F x.v = some q ∧ q.s = s' ∧ q.k = k' ∧ q.e = e'
  lf : ∀ y v, L y = some v → ∃ e' x, e' < e ∧ At hs s k e' x ∧ x.k = 1 ∧ x.x = y ∧ x.v = v ∧ ∀ e'' x', e' < e'' → e'' < e → At hs s k e'' x' → x'.k = 1 → x'.x ≠ y
  ln : ∀ y, L y = none → ∀ e' x, e' < e → At hs s k e' x → x.k = 1 → x.x ≠ y

theorem WI.start (hs : List (List Tx)) : WI hs 0 0 0 (fun _ => none) (fun _ => none) :=
  ⟨fun _ _ h => by simp at h, fun s' k' e' x _ h _ => by simp [Bef] at h, fun _ _ h => by simp at h, fun _ _ e' x h => by omega⟩
theorem WI.wipe {hs : List (List Tx)} {s k : Nat} {F : Nat → Option Wr} {L : Nat → Option Nat} (h : WI hs s k 0 F L) : WI hs s k 0 F (fun _ => none) :=
  ⟨h.fwd, h.bwd, fun _ _ h => by simp at h, fun _ _ e' x h => by omega⟩
/-- Nothing new lies in between. -/
theorem WI.skip {hs : List (List Tx)} {s k e s2 k2 e2 : Nat} {F : Nat → Option Wr} {L L2 : Nat → Option Nat} (h : WI hs s k e F L)
    (h1 : ∀ s' k' e', Bef s k e s' k' e' → Bef s2 k2 e2 s' k' e') (h2 : ∀ s' k' e' x, At hs s' k' e' x → x.k = 1 → Bef s2 k2 e2 s' k' e' → Bef s k e s' k' e')
    (h3 : ∀ y v, L2 y = some v → ∃ e' x, e' < e2 ∧ At hs s2 k2 e' x ∧ x.k = 1 ∧ x.x = y ∧ x.v = v ∧ ∀ e'' x', e' < e'' → e'' < e2 → At hs s2 k2 e'' x' → x'.k = 1 → x'.x ≠ y)
    (h4 : ∀ y, L2 y = none → ∀ e' x, e' < e2 → At hs s2 k2 e' x → x.k = 1 → x.x ≠ y) : WI hs s2 k2 e2 F L2 := by
  refine ⟨fun v q hq => ?_, fun s' k' e' x ha hb hx => h.bwd s' k' e' x ha (h2 _ _ _ _ ha hx hb) hx, h3, h4⟩
  obtain ⟨a, x, b, c, d, f⟩ := h.fwd v q hq
  refine ⟨h1 _ _ _ a, x, b, c, d, ?_⟩
  rcases f with ⟨f, g⟩ | f
  · exact .inl ⟨f, fun e' x' h5 h6 h7 h8 => g e' x' (h2 _ _ _ _ h7 h8 h5) h6 h7 h8⟩
  · exact .inr f
theorem WI.read {hs : List (List Tx)} {s k e : Nat} {F : Nat → Option Wr} {L : Nat → Option Nat} (h : WI hs s k e F L) {v : Ev} (ha : At hs s k e v) (hv : v.k = 0) : WI hs s k (e + 1) F L := by
  refine h.skip (fun s' k' e' hb => ?_) (fun s' k' e' x h1 h2 hb => ?_) (fun y u hu => ?_) (fun y hy e' x h1 h2 h3 => ?_)
  · simp only [Bef] at hb ⊢; omega
  · have : ¬ (s' = s ∧ k' = k ∧ e' = e) := by
      rintro ⟨rfl, rfl, rfl⟩
      have := ha.same h1
      subst this; omega
    simp only [Bef] at hb ⊢; omega
  · obtain ⟨e', x, h1, h2, h3, h4, h5, h6⟩ := h.lf y u hu
    refine ⟨e', x, by omega, h2, h3, h4, h5, fun e'' x' g1 g2 g3 g4 => ?_⟩
    by_cases q : e'' = e
    · subst q
      have := ha.same g3
      subst this; omega
    · exact h6 e'' x' g1 (by omega) g3 g4
  · by_cases q : e' = e
    · subst q
      have := ha.same h2
      subst this; omega
    · exact h.ln y hy e' x (by omega) h2 h3
theorem WI.nextTxn {hs : List (List Tx)} {s k : Nat} {F : Nat → Option Wr} {L : Nat → Option Nat} {l : List Tx} {t : Tx} (hl : hs[s]? = some l) (ht : l[k]? = some t) (h : WI hs s k t.evs.length F L) : WI hs s (k + 1) 0 F (fun _ => none) := by
  refine h.skip (fun s' k' e' hb => ?_) (fun s' k' e' x h1 h2 hb => ?_) (fun y u hu => by simp at hu) (fun y hy e' x h1 => by omega)
  · simp only [Bef] at hb ⊢; omega
  · simp only [Bef] at hb ⊢
    obtain ⟨l', t', g1, g2, g3⟩ := h1
    have := (List.getElem?_eq_some_iff.mp g3).1
    by_cases q : s' = s ∧ k' = k
    · obtain ⟨rfl, rfl⟩ := q
      rw [hl] at g1; cases g1
      rw [ht] at g2; cases g2
      omega
    · omega
theorem WI.nextSes {hs : List (List Tx)} {s : Nat} {F : Nat → Option Wr} {L : Nat → Option Nat} {l : List Tx} (hl : hs[s]? = some l) (h : WI hs s l.length 0 F L) : WI hs (s + 1) 0 0 F (fun _ => none) := by
  refine h.skip (fun s' k' e' hb => ?_) (fun s' k' e' x h1 h2 hb => ?_) (fun y u hu => by simp at hu) (fun y hy e' x h1 => by omega)
  · simp only [Bef] at hb ⊢; omega
  · simp only [Bef] at hb ⊢
    obtain ⟨l', t', g1, g2, g3⟩ := h1
    have := (List.getElem?_eq_some_iff.mp g2).1
    by_cases q : s' = s
    · subst q
      rw [hl] at g1; cases g1
      omega
    · omega
theorem WI.fresh {hs : List (List Tx)} {s k e : Nat} {F : Nat → Option Wr} {L : Nat → Option Nat} (O : HOk hs) (h : WI hs s k e F L) {v : Ev} (ha : At hs s k e v) (hv : v.k = 1) : F v.v = none := by
  cases hF : F v.v with
  | none => rfl
  | some q =>
    obtain ⟨a, x, b, c, d, f⟩ := h.fwd _ _ hF
    have := O.uniq _ _ _ _ _ _ _ _ b ha c hv d
    simp only [Bef] at a
    omega
def wr1 (F : Nat → Option Wr) (v : Ev) (s k e : Nat) : Nat → Option Wr := fun u => if u = v.v then some ⟨s, k, e, -1⟩ else F u
def wr0 (F : Nat → Option Wr) (u e : Nat) (q : Wr) : Nat → Option Wr := fun u' => if u' = u then some { q with n := e } else F u'
def lt1 (L : Nat → Option Nat) (v : Ev) : Nat → Option Nat := fun y => if y = v.x then some v.v else L y
theorem WI.found {hs : List (List Tx)} {s k e : Nat} {F : Nat → Option Wr} {L : Nat → Option Nat} (h : WI hs s k e F L) {y u : Nat} (hu : L y = some u) : ∃ q, F u = some q ∧ q.s = s ∧ q.k = k ∧ q.e < e := by
  obtain ⟨e', x, h1, h2, h3, h4, h5, h6⟩ := h.lf y u hu
  obtain ⟨q, g1, g2, g3, g4⟩ := h.bwd s k e' x h2 (by simp [Bef]; omega) h3
  rw [h5] at g1
  exact ⟨q, g1, g2, g3, by omega⟩
theorem WI.lnext {hs : List (List Tx)} {s k e : Nat} {F : Nat → Option Wr} {L : Nat → Option Nat} (h : WI hs s k e F L) {v : Ev} (ha : At hs s k e v) (hv : v.k = 1) :
    (∀ y u, lt1 L v y = some u → ∃ e' x, e' < e + 1 ∧ At hs s k e' x ∧ x.k = 1 ∧ x.x = y ∧ x.v = u ∧ ∀ e'' x', e' < e'' → e'' < e + 1 → At hs s k e'' x' → x'.k = 1 → x'.x ≠ y) ∧ (∀ y, lt1 L v y = none → ∀ e' x, e' < e + 1 → At hs s k e' x → x.k = 1 → x.x ≠ y) := by
  refine ⟨fun y u hu => ?_, fun y hy e' x h1 h2 h3 => ?_⟩
  · by_cases q : y = v.x
    · simp [lt1, q] at hu
      subst hu q
      exact ⟨e, v, by omega, ha, hv, rfl, rfl, fun e'' x' g1 g2 => by omega⟩
    · simp [lt1, q] at hu
      obtain ⟨e', x, h1, h2, h3, h4, h5, h6⟩ := h.lf y u hu
      refine ⟨e', x, by omega, h2, h3, h4, h5, fun e'' x' g1 g2 g3 g4 => ?_⟩
      by_cases q2 : e'' = e
      · subst q2
        have := ha.same g3
        subst this; exact fun z => q z.symm
      · exact h6 e'' x' g1 (by omega) g3 g4
  · by_cases q : y = v.x
    · simp [lt1, q] at hy
    · simp [lt1, q] at hy
      by_cases q2 : e' = e
      · subst q2
        have := ha.same h2
        subst this; exact fun z => q z.symm
      · exact h.ln y hy e' x (by omega) h2 h3
theorem bef_step {s k e s' k' e' : Nat} (h : Bef s k (e + 1) s' k' e') : Bef s k e s' k' e' ∨ (s' = s ∧ k' = k ∧ e' = e) := by
  simp only [Bef] at h ⊢; omega
theorem bef_up {s k e s' k' e' : Nat} (h : Bef s k e s' k' e') : Bef s k (e + 1) s' k' e' := by
  simp only [Bef] at h ⊢; omega
theorem WI.write {hs : List (List Tx)} {s k e : Nat} {F : Nat → Option Wr} {L : Nat → Option Nat} (O : HOk hs) (h : WI hs s k e F L) {v : Ev} (ha : At hs s k e v) (hv : v.k = 1) (hL : L v.x = none) : WI hs s k (e + 1) (wr1 F v s k e) (lt1 L v) := by
  have hF := h.fresh O ha hv
  refine ⟨fun u q hq => ?_, fun s' k' e' x g1 g2 g3 => ?_, (h.lnext ha hv).1, (h.lnext ha hv).2⟩
  · by_cases c : u = v.v
    · simp [wr1, c] at hq
      subst hq c
      refine ⟨by simp [Bef], v, ha, hv, rfl, .inl ⟨rfl, fun e' x' g1 g2 => ?_⟩⟩
      simp [Bef] at g1; simp at g2; omega
    · simp [wr1, c] at hq
      obtain ⟨a, x, b, c, d, f⟩ := h.fwd u q hq
      refine ⟨bef_up a, x, b, c, d, ?_⟩
      rcases f with ⟨f, g⟩ | f
      · refine .inl ⟨f, fun e' x' h5 h6 h7 h8 => ?_⟩
        rcases bef_step h5 with h5 | ⟨h51, h52, h53⟩
        · exact g e' x' h5 h6 h7 h8
        · subst h53
          rw [h51, h52] at h7 b
          have := ha.same h7
          subst this
          have := h.ln _ hL q.e x h6 b c
          exact fun z => this z.symm
      · exact .inr f
  · rcases bef_step g2 with g2 | ⟨rfl, rfl, rfl⟩
    · obtain ⟨q, k1, k2⟩ := h.bwd s' k' e' x g1 g2 g3
      have : x.v ≠ v.v := by intro z; rw [z, hF] at k1; cases k1
      exact ⟨q, by simp [wr1, this, k1], k2⟩
    · have := ha.same g1
      subst this
      exact ⟨⟨s', k', e', -1⟩, by simp [wr1], rfl, rfl, rfl⟩
theorem WI.write2 {hs : List (List Tx)} {s k e : Nat} {F : Nat → Option Wr} {L : Nat → Option Nat} (O : HOk hs) (h : WI hs s k e F L) {v : Ev} (ha : At hs s k e v) (hv : v.k = 1) {u : Nat} (hL : L v.x = some u) {q : Wr} (hq : F u = some q) : WI hs s k (e + 1) (wr1 (wr0 F u e q) v s k e) (lt1 L v) := by
  have hF := h.fresh O ha hv
  have huv : u ≠ v.v := by intro z; rw [z, hF] at hq; cases hq
  obtain ⟨e0, x0, a1, a2, a3, a4, a5, a6⟩ := h.lf _ _ hL
  obtain ⟨q', b1, b2, b3, b4⟩ := h.bwd s k e0 x0 a2 (by simp [Bef]; omega) a3
  rw [a5, hq] at b1; cases b1
  refine ⟨fun u' q' hq' => ?_, fun s' k' e' x g1 g2 g3 => ?_, (h.lnext ha hv).1, (h.lnext ha hv).2⟩
  · by_cases c : u' = v.v
    · simp [wr1, c] at hq'
      subst hq' c
      refine ⟨by simp [Bef], v, ha, hv, rfl, .inl ⟨rfl, fun e' x' g1 g2 => ?_⟩⟩
      simp [Bef] at g1; simp at g2; omega
    · simp [wr1, c] at hq'
      by_cases c2 : u' = u
      · simp [wr0, c2] at hq'
        subst hq' c2
        obtain ⟨a, x, b, c, d, f⟩ := h.fwd _ _ hq
        refine ⟨bef_up a, x, b, c, d, .inr ⟨e, v, rfl, by simp; omega, ?_, hv, ?_⟩⟩
        · simp; rw [b2, b3]; exact ha
        · rw [b2, b3, b4] at b
          have := a2.same b
          subst this; exact a4.symm
      · simp [wr0, c2] at hq'
        obtain ⟨a, x, b, c, d, f⟩ := h.fwd u' q' hq'
        refine ⟨bef_up a, x, b, c, d, ?_⟩
        rcases f with ⟨f, g⟩ | f
        · refine .inl ⟨f, fun e' x' h5 h6 h7 h8 => ?_⟩
          rcases bef_step h5 with h5 | ⟨h51, h52, h53⟩
          · exact g e' x' h5 h6 h7 h8
          · subst h53
            rw [h51, h52] at h7 b
            have := ha.same h7
            subst this
            intro z
            have hlt : q'.e < e0 ∨ q'.e = e0 ∨ e0 < q'.e := by omega
            rcases hlt with h9 | h9 | h9
            · refine g e0 x0 (by simp only [Bef]; omega) h9 ?_ a3 (by rw [a4, z])
              rw [h51, h52]; exact a2
            · rw [h9] at b
              have := a2.same b
              subst this
              exact c2 (d.symm.trans a5)
            · exact a6 q'.e x h9 h6 b c z.symm
        · exact .inr f
  · rcases bef_step g2 with g2 | ⟨rfl, rfl, rfl⟩
    · obtain ⟨q', k1, k2⟩ := h.bwd s' k' e' x g1 g2 g3
      have : x.v ≠ v.v := by intro z; rw [z, hF] at k1; cases k1
      by_cases c2 : x.v = u
      · rw [c2, hq] at k1; cases k1
        exact ⟨{ q with n := e }, by simp [wr1, wr0, huv, c2], k2⟩
      · exact ⟨q', by simp [wr1, wr0, this, c2, k1], k2⟩
    · have := ha.same g1
      subst this
      exact ⟨⟨s', k', e', -1⟩, by simp [wr1], rfl, rfl, rfl⟩
/-- What the map of writes says at last. -/
structure WF (hs : List (List Tx)) (F : Nat → Option Wr) : Prop where
  fwd : ∀ v q, F v = some q → ∃ x, At hs q.s q.k q.e x ∧ x.k = 1 ∧ x.v = v ∧ ((q.n = -1 ∧ ∀ e' x', q.e < e' → At hs q.s q.k e' x' → x'.k = 1 → x'.x ≠ x.x) ∨ (∃ (e' : Nat) (x' : Ev), q.n = (e' : Int) ∧ q.e < e' ∧ At hs q.s q.k e' x' ∧ x'.k = 1 ∧ x'.x = x.x))
  bwd : ∀ s k e x, At hs s k e x → x.k = 1 → ∃ q, F x.v = some q ∧ q.s = s ∧ q.k = k ∧ q.e = e
theorem WI.final {hs : List (List Tx)} {F : Nat → Option Wr} {L : Nat → Option Nat} (h : WI hs hs.length 0 0 F L) : WF hs F := by
  have key : ∀ s k e x, At hs s k e x → Bef hs.length 0 0 s k e := by
    rintro s k e x ⟨l, t, h1, h2, h3⟩
    have := (List.getElem?_eq_some_iff.mp h1).1
    simp only [Bef]; omega
  refine ⟨fun v q hq => ?_, fun s k e x g1 g2 => h.bwd s k e x g1 (key _ _ _ _ g1) g2⟩
  obtain ⟨a, x, b, c, d, f⟩ := h.fwd v q hq
  refine ⟨x, b, c, d, ?_⟩
  rcases f with ⟨f, g⟩ | f
  · exact .inl ⟨f, fun e' x' h6 h7 h8 => g e' x' (key _ _ _ _ h7) h6 h7 h8⟩
  · exact .inr f
/-- What a read that is not initial finds. -/
theorem WF.read {hs : List (List Tx)} {F : Nat → Option Wr} (O : HOk hs) (h : WF hs F) {s k e : Nat} {v : Ev} (ha : At hs s k e v) (hk : v.k = 0) (hi : v.i = false) : ∃ q x, F v.v = some q ∧ At hs q.s q.k q.e x ∧ x.k = 1 ∧ x.v = v.v ∧ x.x = v.x := by
  obtain ⟨s', k', e', v', h1, h2, h3, h4⟩ := O.reads s k e v ha hk hi
  obtain ⟨q, g1, g2, g3, g4⟩ := h.bwd _ _ _ _ h1 h2
  subst g2 g3 g4
  rw [h3] at g1
  exact ⟨q, v', g1, h1, h2, h3, h4⟩
end Go.Proofs.YbulkctquGreatFmt

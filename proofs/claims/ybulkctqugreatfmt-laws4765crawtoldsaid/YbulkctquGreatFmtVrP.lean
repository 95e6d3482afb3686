/-
  Plainly: versions on any history.
-/
import Derived.Test.YbulkctquGreatFmtVersP
namespace Go.Proofs.YbulkctquGreatFmt
open Go.ChangeShapes Go.WideShapes Go.ChangeAt Go.RowKit Go.Ord
set_option linter.unusedVariables false

theorem WI.writeF {hs : List (List Tx)} {s k e : Nat} {F : Nat → Option Wr} {L : Nat → Option Nat} (h : WI hs s k e F L) {v : Ev} (ha : At hs s k e v) (hv : v.k = 1) (hL : L v.x = none) (hF : F v.v = none) : WI hs s k (e + 1) (wr1 F v s k e) (lt1 L v) := by
  refine ⟨fun u q hq => ?_, fun s' k' e' x g1 g2 g3 => ?_, (h.lnext ha hv).1, (h.lnext ha hv).2⟩
  · by_cases c : u = v.v
    · simp [wr1, c] at hq
      subst hq c
      refine ⟨by simp [Bef], v, ha, hv, rfl, .inl ⟨rfl, fun e' x' g1 g2 => ?_⟩⟩
      simp [Bef] at g1; simp at g2; omega
    · simp [wr1, c] at hq
      obtain ⟨a, x, b, c, d, f⟩ := h.fwd u q hq
      refine ⟨bef_up a, x, b, c, d, ?_⟩
      rcases f with ⟨f, g⟩ | f
      · refine .inl ⟨f, fun e' x' h5 h6 h7 h8 => ?_⟩
        rcases bef_step h5 with h5 | ⟨h51, h52, h53⟩
        · exact g e' x' h5 h6 h7 h8
        · subst h53
          rw [h51, h52] at h7 b
          have := ha.same h7
          subst this
          have := h.ln _ hL q.e x h6 b c
          exact fun z => this z.symm
      · exact .inr f
  · rcases bef_step g2 with g2 | ⟨rfl, rfl, rfl⟩
    · obtain ⟨q, k1, k2⟩ := h.bwd s' k' e' x g1 g2 g3
      have : x.v ≠ v.v := by intro z; rw [z, hF] at k1; cases k1
      exact ⟨q, by simp [wr1, this, k1], k2⟩
    · have := ha.same g1
      subst this
      exact ⟨⟨s', k', e', -1⟩, by simp [wr1], rfl, rfl, rfl⟩
theorem WI.write2F {hs : List (List Tx)} {s k e : Nat} {F : Nat → Option Wr} {L : Nat → Option Nat} (h : WI hs s k e F L) {v : Ev} (ha : At hs s k e v) (hv : v.k = 1) {u : Nat} (hL : L v.x = some u) {q : Wr} (hq : F u = some q) (hF : F v.v = none) : WI hs s k (e + 1) (wr1 (wr0 F u e q) v s k e) (lt1 L v) := by
  have huv : u ≠ v.v := by intro z; rw [z, hF] at hq; cases hq
  obtain ⟨e0, x0, a1, a2, a3, a4, a5, a6⟩ := h.lf _ _ hL
  obtain ⟨q', b1, b2, b3, b4⟩ := h.bwd s k e0 x0 a2 (by simp [Bef]; omega) a3
  rw [a5, hq] at b1; cases b1
  refine ⟨fun u' q' hq' => ?_, fun s' k' e' x g1 g2 g3 => ?_, (h.lnext ha hv).1, (h.lnext ha hv).2⟩
  · by_cases c : u' = v.v
    · simp [wr1, c] at hq'
      subst hq' c
      refine ⟨by simp [Bef], v, ha, hv, rfl, .inl ⟨rfl, fun e' x' g1 g2 => ?_⟩⟩
      simp [Bef] at g1; simp at g2; omega
    · simp [wr1, c] at hq'
      by_cases c2 : u' = u
      · simp [wr0, c2] at hq'
        subst hq' c2
        obtain ⟨a, x, b, c, d, f⟩ := h.fwd _ _ hq
        refine ⟨bef_up a, x, b, c, d, .inr ⟨e, v, rfl, by simp; omega, ?_, hv, ?_⟩⟩
        · simp; rw [b2, b3]; exact ha
        · rw [b2, b3, b4] at b
          have := a2.same b
          subst this; exact a4.symm
      · simp [wr0, c2] at hq'
        obtain ⟨a, x, b, c, d, f⟩ := h.fwd u' q' hq'
        refine ⟨bef_up a, x, b, c, d, ?_⟩
        rcases f with ⟨f, g⟩ | f
        · refine .inl ⟨f, fun e' x' h5 h6 h7 h8 => ?_⟩
          rcases bef_step h5 with h5 | ⟨h51, h52, h53⟩
          · exact g e' x' h5 h6 h7 h8
          · subst h53
            rw [h51, h52] at h7 b
            have := ha.same h7
            subst this
            intro z
            have hlt : q'.e < e0 ∨ q'.e = e0 ∨ e0 < q'.e := by omega
            rcases hlt with h9 | h9 | h9
            · refine g e0 x0 (by simp only [Bef]; omega) h9 ?_ a3 (by rw [a4, z])
              rw [h51, h52]; exact a2
            · rw [h9] at b
              have := a2.same b
              subst this
              exact c2 (d.symm.trans a5)
            · exact a6 q'.e x h9 h6 b c z.symm
        · exact .inr f
  · rcases bef_step g2 with g2 | ⟨rfl, rfl, rfl⟩
    · obtain ⟨q', k1, k2⟩ := h.bwd s' k' e' x g1 g2 g3
      have : x.v ≠ v.v := by intro z; rw [z, hF] at k1; cases k1
      by_cases c2 : x.v = u
      · rw [c2, hq] at k1; cases k1
        exact ⟨{ q with n := e }, by simp [wr1, wr0, huv, c2], k2⟩
      · exact ⟨q', by simp [wr1, wr0, this, c2, k1], k2⟩
    · have := ha.same g1
      subst this
      exact ⟨⟨s', k', e', -1⟩, by simp [wr1], rfl, rfl, rfl⟩

structure Bnd (hs : List (List Tx)) : Prop where
  small : hs.length < 90
  small2 : ∀ l ∈ hs, l.length < 90
  small3 : ∀ l ∈ hs, ∀ t ∈ l, t.evs.length < 89
  ev : ∀ s k e x, At hs s k e x → x.k < 256 ∧ x.v < 900 ∧ x.x < 900
def G1 (hs : List (List Tx)) (s k e : Nat) : Prop := ∀ s' k' e' x, At hs s' k' e' x → Bef s k e s' k' e' → (x.k = 0 ∨ x.k = 1) ∧ (x.k = 1 → x.i = false)
def G2 (hs : List (List Tx)) (s k e : Nat) : Prop := ∀ s' k' e' x, At hs s' k' e' x → Bef s k e s' k' e' → x.k = 0 → x.i = false → ∃ s2 k2 e2 v2, At hs s2 k2 e2 v2 ∧ v2.k = 1 ∧ v2.v = x.v ∧ v2.x = x.x
section
variable {hs : List (List Tx)} {s k e : Nat}
theorem bef_zero {s' k' e' : Nat} (h : Bef 0 0 0 s' k' e') : False := by unfold Bef at h; omega
theorem bef_txn {l : List Tx} {t : Tx} (hl : hs[s]? = some l) (ht : l[k]? = some t) {s' k' e' : Nat} {x : Ev} (ha : At hs s' k' e' x) (h : Bef s (k + 1) 0 s' k' e') : Bef s k t.evs.length s' k' e' := by
  unfold Bef at *
  rcases h with h | ⟨rfl, h⟩
  · exact .inl h
  · refine .inr ⟨rfl, ?_⟩
    rcases h with h | ⟨_, h⟩
    · by_cases c : k' = k
      · subst c
        obtain ⟨l', t', h1, h2, h3⟩ := ha
        rw [hl] at h1; injection h1 with h1; subst h1
        rw [ht] at h2; injection h2 with h2; subst h2
        exact .inr ⟨rfl, (List.getElem?_eq_some_iff.mp h3).1⟩
      · exact .inl (by omega)
    · omega
theorem bef_ses {l : List Tx} (hl : hs[s]? = some l) {s' k' e' : Nat} {x : Ev} (ha : At hs s' k' e' x) (h : Bef (s + 1) 0 0 s' k' e') : Bef s l.length 0 s' k' e' := by
  unfold Bef at *
  rcases h with h | ⟨_, h⟩
  · by_cases c : s' = s
    · subst c
      obtain ⟨l', t', h1, h2, h3⟩ := ha
      rw [hl] at h1; injection h1 with h1; subst h1
      exact .inr ⟨rfl, .inl (List.getElem?_eq_some_iff.mp h2).1⟩
    · exact .inl (by omega)
  · omega
theorem bef_all {s' k' e' : Nat} {x : Ev} (ha : At hs s' k' e' x) : Bef hs.length 0 0 s' k' e' := by
  obtain ⟨l', t', h1, _⟩ := ha
  exact .inl (List.getElem?_eq_some_iff.mp h1).1
theorem G1.start : G1 hs 0 0 0 := fun _ _ _ _ _ h => (bef_zero h).elim
theorem G2.start : G2 hs 0 0 0 := fun _ _ _ _ _ h => (bef_zero h).elim
theorem G1.step (h : G1 hs s k e) {v : Ev} (ha : At hs s k e v) (h1 : v.k = 0 ∨ v.k = 1) (h2 : v.k = 1 → v.i = false) : G1 hs s k (e + 1) := fun s' k' e' x q1 q2 => by
  rcases bef_step q2 with q | ⟨rfl, rfl, rfl⟩
  · exact h _ _ _ _ q1 q
  · have := q1.same ha; subst this; exact ⟨h1, h2⟩
theorem G2.step (h : G2 hs s k e) {v : Ev} (ha : At hs s k e v) (h1 : v.k = 0 → v.i = false → ∃ s2 k2 e2 v2, At hs s2 k2 e2 v2 ∧ v2.k = 1 ∧ v2.v = v.v ∧ v2.x = v.x) : G2 hs s k (e + 1) := fun s' k' e' x q1 q2 => by
  rcases bef_step q2 with q | ⟨rfl, rfl, rfl⟩
  · exact h _ _ _ _ q1 q
  · have := q1.same ha; subst this; exact h1
theorem G1.nextTxn {l : List Tx} {t : Tx} (hl : hs[s]? = some l) (ht : l[k]? = some t) (h : G1 hs s k t.evs.length) : G1 hs s (k + 1) 0 := fun _ _ _ _ q1 q2 => h _ _ _ _ q1 (bef_txn hl ht q1 q2)
theorem G2.nextTxn {l : List Tx} {t : Tx} (hl : hs[s]? = some l) (ht : l[k]? = some t) (h : G2 hs s k t.evs.length) : G2 hs s (k + 1) 0 := fun _ _ _ _ q1 q2 => h _ _ _ _ q1 (bef_txn hl ht q1 q2)
theorem G1.nextSes {l : List Tx} (hl : hs[s]? = some l) (h : G1 hs s l.length 0) : G1 hs (s + 1) 0 0 := fun _ _ _ _ q1 q2 => h _ _ _ _ q1 (bef_ses hl q1 q2)
theorem G2.nextSes {l : List Tx} (hl : hs[s]? = some l) (h : G2 hs s l.length 0) : G2 hs (s + 1) 0 0 := fun _ _ _ _ q1 q2 => h _ _ _ _ q1 (bef_ses hl q1 q2)
theorem HOk.of {F : Nat → Option Wr} (B : Bnd hs) (h1 : G1 hs hs.length 0 0) (W : WF hs F) (h2 : G2 hs hs.length 0 0) : HOk hs := by
  refine ⟨fun s k e v ha => (h1 _ _ _ _ ha (bef_all ha)).1, fun s k e v ha hk => (h1 _ _ _ _ ha (bef_all ha)).2 hk, fun s k e v s' k' e' v' ha hb hk hk' hv => ?_, fun s k e v ha hk hi => h2 _ _ _ _ ha (bef_all ha) hk hi, B.small, B.small2, fun l hl t ht => by have := B.small3 l hl t ht; omega⟩
  obtain ⟨q, q1, q2, q3, q4⟩ := W.bwd _ _ _ _ ha hk
  obtain ⟨r, r1, r2, r3, r4⟩ := W.bwd _ _ _ _ hb hk'
  rw [← hv, q1] at r1; injection r1 with r1; subst r1
  exact ⟨by omega, by omega, by omega⟩
theorem HOk.bnd (O : HOk hs) (B : Bnd hs) : True := trivial
end
end Go.Proofs.YbulkctquGreatFmt

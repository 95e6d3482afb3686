/-
  Plainly: the law's model of a history: its writes in order.
-/
import Derived.Test.YbulkctquGreatFmtMo9
import Derived.Test.YbulkctquGreatFmtPlC
namespace Go.Proofs.YbulkctquGreatFmt
open Go.ChangeShapes Go.WideShapes Go.ChangeAt Go.RowKit Go.Ord
set_option linter.unusedVariables false

structure MI (hs : List (List Tx)) (s k e : Nat) (ws : List Wz) : Prop where
  fwd : ∀ z ∈ ws, ∃ x, At hs z.s z.k z.e x ∧ x.k = 1 ∧ x.v = z.v ∧ x.x = z.x ∧ Bef s k e z.s z.k z.e
  bwd : ∀ s' k' e' x, At hs s' k' e' x → Bef s k e s' k' e' → x.k = 1 → ∃ z ∈ ws, z.v = x.v ∧ z.s = s' ∧ z.k = k' ∧ z.e = e'
  nd : (ws.map Wz.v).Nodup
section
variable {hs : List (List Tx)} {s k e : Nat} {ws : List Wz}
theorem MI.start : MI hs 0 0 0 [] := ⟨by simp, fun _ _ _ _ _ h => (bef_zero h).elim, by simp⟩
theorem MI.len (h : MI hs s k e ws) (B : Bnd hs) : ws.length ≤ 900 := by
  have := nodup_len 900 (ws.map Wz.v) h.nd (fun y hy => by
    obtain ⟨z, hz, rfl⟩ := List.mem_map.mp hy
    obtain ⟨x, h1, _, h3, _⟩ := h.fwd z hz
    have := (B.ev _ _ _ _ h1).2.1
    omega)
  simpa using this
theorem MI.read (h : MI hs s k e ws) {v : Ev} (ha : At hs s k e v) (hk : v.k ≠ 1) : MI hs s k (e + 1) ws := by
  refine ⟨fun z hz => ?_, fun s' k' e' x h1 h2 h3 => ?_, h.nd⟩
  · obtain ⟨x, a, b, c, d, f⟩ := h.fwd z hz
    exact ⟨x, a, b, c, d, bef_up f⟩
  · rcases bef_step h2 with q | ⟨rfl, rfl, rfl⟩
    · exact h.bwd _ _ _ _ h1 q h3
    · have := h1.same ha; subst this; exact absurd h3 hk
theorem MI.write (h : MI hs s k e ws) {v : Ev} (ha : At hs s k e v) (hk : v.k = 1) (hn : ∀ z ∈ ws, z.v ≠ v.v) : MI hs s k (e + 1) (ws ++ [⟨v.v, v.x, s, k, e⟩]) := by
  refine ⟨fun z hz => ?_, fun s' k' e' x h1 h2 h3 => ?_, ?_⟩
  · rcases List.mem_append.mp hz with hz | hz
    · obtain ⟨x, a, b, c, d, f⟩ := h.fwd z hz
      exact ⟨x, a, b, c, d, bef_up f⟩
    · simp at hz; subst hz
      exact ⟨v, ha, hk, rfl, rfl, .inr ⟨rfl, .inr ⟨rfl, Nat.lt_succ_self _⟩⟩⟩
  · rcases bef_step h2 with q | ⟨rfl, rfl, rfl⟩
    · obtain ⟨z, z1, z2⟩ := h.bwd _ _ _ _ h1 q h3
      exact ⟨z, by simp [z1], z2⟩
    · have := h1.same ha; subst this
      exact ⟨⟨x.v, x.x, s', k', e'⟩, by simp, rfl, rfl, rfl, rfl⟩
  · rw [List.map_append, List.nodup_append]
    refine ⟨h.nd, by simp, fun a ha' b hb e' => ?_⟩
    obtain ⟨z, hz, rfl⟩ := List.mem_map.mp ha'
    simp at hb
    exact hn z hz (by omega)
theorem MI.nextTxn {l : List Tx} {t : Tx} (hl : hs[s]? = some l) (ht : l[k]? = some t) (h : MI hs s k t.evs.length ws) : MI hs s (k + 1) 0 ws := by
  refine ⟨fun z hz => ?_, fun s' k' e' x h1 h2 h3 => h.bwd _ _ _ _ h1 (bef_txn hl ht h1 h2) h3, h.nd⟩
  obtain ⟨x, a, b, c, d, f⟩ := h.fwd z hz
  exact ⟨x, a, b, c, d, by unfold Bef at *; omega⟩
theorem MI.nextSes {l : List Tx} (hl : hs[s]? = some l) (h : MI hs s l.length 0 ws) : MI hs (s + 1) 0 0 ws := by
  refine ⟨fun z hz => ?_, fun s' k' e' x h1 h2 h3 => h.bwd _ _ _ _ h1 (bef_ses hl h1 h2) h3, h.nd⟩
  obtain ⟨x, a, b, c, d, f⟩ := h.fwd z hz
  exact ⟨x, a, b, c, d, by unfold Bef at *; omega⟩
/-- A version that is listed is written before. -/
theorem MI.dup (h : MI hs s k e ws) {v : Ev} (ha : At hs s k e v) (hk : v.k = 1) {z : Wz} (hz : z ∈ ws) (hv : z.v = v.v) : ¬ HOk hs := fun O => by
  obtain ⟨x, a, b, c, d, f⟩ := h.fwd z hz
  have := O.uniq _ _ _ _ _ _ _ _ a ha b hk (by omega)
  unfold Bef at f
  omega
theorem map_inj {l : List Wz} (h : (l.map Wz.v).Nodup) {a b : Wz} (ha : a ∈ l) (hb : b ∈ l) (e : a.v = b.v) : a = b := by
  obtain ⟨i, hi⟩ := List.getElem?_of_mem ha
  obtain ⟨j, hj⟩ := List.getElem?_of_mem hb
  have : i = j := nodup_at h (i := i) (j := j) (x := a.v) (by simp [hi]) (by simp [hj, e])
  subst this
  rw [hi] at hj; injection hj
theorem HOk.ofM (B : Bnd hs) (h1 : G1 hs hs.length 0 0) (h : MI hs hs.length 0 0 ws) (h2 : G2 hs hs.length 0 0) : HOk hs := by
  refine ⟨fun s k e v ha => (h1 _ _ _ _ ha (bef_all ha)).1, fun s k e v ha hk => (h1 _ _ _ _ ha (bef_all ha)).2 hk, fun s k e v s' k' e' v' ha hb hk hk' hv => ?_, fun s k e v ha hk hi => h2 _ _ _ _ ha (bef_all ha) hk hi, B.small, B.small2, fun l hl t ht => by have := B.small3 l hl t ht; omega⟩
  obtain ⟨z, z1, z2, z3, z4, z5⟩ := h.bwd _ _ _ _ ha (bef_all ha) hk
  obtain ⟨y, y1, y2, y3, y4, y5⟩ := h.bwd _ _ _ _ hb (bef_all hb) hk'
  have := map_inj h.nd z1 y1 (by omega)
  subst this
  exact ⟨by omega, by omega, by omega⟩
/-- A read whose version is found at its variable, or not. -/
theorem MI.good (h : MI hs hs.length 0 0 ws) {v : Ev} {z : Wz} (hz : z ∈ ws) (hv : z.v = v.v) (hx : z.x = v.x) : ∃ s2 k2 e2 v2, At hs s2 k2 e2 v2 ∧ v2.k = 1 ∧ v2.v = v.v ∧ v2.x = v.x := by
  obtain ⟨x, a, b, c, d, f⟩ := h.fwd z hz
  exact ⟨_, _, _, x, a, b, by omega, by omega⟩
theorem MI.bad (h : MI hs hs.length 0 0 ws) {s k e : Nat} {v : Ev} (ha : At hs s k e v) (hk : v.k = 0) (hi : v.i = false) (hb : ∀ z ∈ ws, z.v = v.v → z.x ≠ v.x) : ¬ HOk hs := fun O => by
  obtain ⟨s', k', e', v', a, b, c, d⟩ := O.reads _ _ _ _ ha hk hi
  obtain ⟨z, z1, z2, z3, z4, z5⟩ := h.bwd _ _ _ _ a (bef_all a) b
  obtain ⟨x, f1, f2, f3, f4, _⟩ := h.fwd z z1
  rw [z3, z4, z5] at f1
  have := f1.same a; subst this
  exact hb z z1 (by omega) (by omega)
end
end Go.Proofs.YbulkctquGreatFmt

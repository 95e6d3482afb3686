/-
  Plainly: the replay of the order found: what each read finds.
-/
import Derived.Test.YbulkctquGreatFmtWrP
namespace Go.Proofs.YbulkctquGreatFmt
open Go.ChangeShapes Go.WideShapes Go.ChangeAt Go.RowKit Go.Ord
set_option linter.unusedVariables false

section
variable {hs : List (List Tx)} {F : Nat → Option Wr} {A : List Rk} {zs : List Nat} {NM : Nat × Nat → Option Nat} {vars vers : List Nat} {os : List Ob} {ss : List Sr} {fa : List Int} {ows G : List (List Nat)} {J : List Bool} {D P : List Nat}
theorem last_write {s k y : Nat} : ∀ (n e : Nat) (x : Ev), At hs s k e x → x.k = 1 → x.x = y → (∀ e' x', At hs s k e' x' → e' < e + n) → ∃ e2 x2, At hs s k e2 x2 ∧ x2.k = 1 ∧ x2.x = y ∧ ∀ e3 x3, e2 < e3 → At hs s k e3 x3 → x3.k = 1 → x3.x ≠ y := by
  intro n
  induction n with
  | zero => intro e x h _ _ hb; have := hb e x h; omega
  | succ n ih =>
    intro e x h hk hx hb
    by_cases c : ∃ e3 x3, e < e3 ∧ At hs s k e3 x3 ∧ x3.k = 1 ∧ x3.x = y
    · obtain ⟨e3, x3, c1, c2, c3, c4⟩ := c
      exact ih e3 x3 c2 c3 c4 (fun e' x' h' => by have := hb e' x' h'; omega)
    · exact ⟨e, x, h, hk, hx, fun e3 x3 q1 q2 q3 q4 => c ⟨e3, x3, q1, q2, q3, q4⟩⟩
theorem NP.wrm (N : NP hs F A zs NM vars vers os ss fa ows G J) (W : WF hs F) {u e : Nat} {x : Ev} (hz : EvN hs A zs u e x) (hk : x.k = 1) : ∃ (n : Nat) (o : Ob), vars[n]? = some x.x ∧ os[n]? = some o ∧ u ∈ o.wr := by
  obtain ⟨om, sm, c, Ge, G0, E, _⟩ := N.ei
  obtain ⟨n, hn⟩ := E.known u e x (done_all N.hp hz) hz
  have hv := (E.omI _ _).mp hn
  obtain ⟨o, ho⟩ := has_at os (k := n) (by rw [← E.lenO]; exact (List.getElem?_eq_some_iff.mp hv).1)
  refine ⟨n, o, hv, ho, ((E.obI n o x.x ho hv).1 u).mpr ?_⟩
  obtain ⟨p, p1, p2⟩ := hz
  obtain ⟨l, t, l1, l2, l3⟩ := p2
  obtain ⟨e2, x2, b1, b2, b3, b4⟩ := last_write t.evs.length e x ⟨l, t, l1, l2, l3⟩ hk rfl (fun e' x' h' => by
    obtain ⟨l', t', q1, q2, q3⟩ := h'
    rw [l1] at q1; injection q1 with q1; subst q1
    rw [l2] at q2; injection q2 with q2; subst q2
    have := (List.getElem?_eq_some_iff.mp q3).1; omega)
  have hz2 : EvN hs A zs u e2 x2 := ⟨p, p1, b1⟩
  refine ⟨e2, x2, done_all N.hp hz2, hz2, b2, b3, ?_⟩
  obtain ⟨q, q1, q2, q3, q4⟩ := W.bwd _ _ _ _ b1 b2
  refine ⟨q, q1, ?_⟩
  obtain ⟨x', r1, r2, r3, r4⟩ := W.fwd _ _ q1
  rcases r4 with ⟨r4, _⟩ | ⟨e', x'', r4, r5, r6, r7, r8⟩
  · omega
  · exfalso
    rw [q2, q3, q4] at r1
    have := r1.same b1; subst this
    rw [q2, q3] at r6
    exact b4 e' x'' (by omega) r6 r7 (by rw [r8]; exact b3)
theorem NP.inim (N : NP hs F A zs NM vars vers os ss fa ows G J) {u e : Nat} {x : Ev} (hz : EvN hs A zs u e x) (hk : x.k = 0) (hi : x.i = true) : ∃ (n : Nat) (o : Ob), vars[n]? = some x.x ∧ os[n]? = some o ∧ u ∈ o.ini := by
  obtain ⟨om, sm, c, Ge, G0, E, _⟩ := N.ei
  obtain ⟨n, hn⟩ := E.known u e x (done_all N.hp hz) hz
  have hv := (E.omI _ _).mp hn
  obtain ⟨o, ho⟩ := has_at os (k := n) (by rw [← E.lenO]; exact (List.getElem?_eq_some_iff.mp hv).1)
  exact ⟨n, o, hv, ho, ((E.obI n o x.x ho hv).2.2.1 u).mpr ⟨e, x, done_all N.hp hz, hz, hk, hi, rfl⟩⟩
theorem NP.vinj (N : NP hs F A zs NM vars vers os ss fa ows G J) {n n' y : Nat} (h : vars[n]? = some y) (h' : vars[n']? = some y) : n = n' := by
  obtain ⟨om, sm, c, Ge, G0, E, _⟩ := N.ei
  have a := (E.omI _ _).mpr h
  have b := (E.omI _ _).mpr h'
  rw [a] at b; injection b
theorem NP.srm (N : NP hs F A zs NM vars vers os ss fa ows G J) {u e : Nat} {z : Ev} (hz : EvN hs A zs u e z) (hk : z.k = 0) (hi : z.i = false) {q : Wr} (hq : F z.v = some q) (hn : (ats A zs)[u]? ≠ some (q.s, q.k)) : ∃ (k : Nat) (s : Sr), ss[k]? = some s ∧ vers[k]? = some z.v ∧ u ∈ s.rd := by
  obtain ⟨om, sm, c, Ge, G0, E, _⟩ := N.ei
  have hno : ¬ OwnV F A zs u z.v := fun ⟨q', h1, h2⟩ => by
    rw [hq] at h1; injection h1 with h1; subst h1; exact hn h2
  obtain ⟨k, h⟩ := E.all u e z (done_all N.hp hz) hz hk hi hno
  have hv := (E.smI _ _).mp h
  obtain ⟨s, hs'⟩ := has_at ss (k := k) (by rw [← E.lenS]; exact (List.getElem?_eq_some_iff.mp hv).1)
  exact ⟨k, s, hs', hv, ((E.srI k s z.v hs' hv).2.1 u).mpr ⟨⟨e, z, done_all N.hp hz, hz, hk, hi, rfl⟩, hno⟩⟩
variable {i e : Nat} {st : Nat → Option Nat}
theorem RSR.initial (R : RSR hs A zs P i e st) (N : NP hs F A zs NM vars vers os ss fa ows G J) (W : WF hs F) (Q : POR hs A zs os ss P) {u : Nat} (hu : P[i]? = some u) {z : Ev} (hz : EvN hs A zs u e z) (hk : z.k = 0) (hi : z.i = true) : st z.x = none := by
  cases hst : st z.x with
  | none => rfl
  | some c =>
    exfalso
    obtain ⟨j, e', x, ⟨u2, a1, a2, a3, a4, a5⟩, _⟩ := R.som _ _ hst
    by_cases q : j = i
    · subst q
      rw [hu] at a1; injection a1 with a1; subst a1
      obtain ⟨p, p1, p2⟩ := hz
      obtain ⟨p', p1', p2'⟩ := a3
      rw [p1] at p1'; injection p1' with p1'; subst p1'
      have hc : Cm hs p.1 p.2 := by
        obtain ⟨l, t, b1, b2, b3⟩ := ats_cm N.hA N.hp p1
        exact ⟨l, t, b1, b2, b3⟩
      exact Q.bas.2.ini _ _ _ _ p2 hc hk hi e' x (by omega) p2' a4 a5
    · obtain ⟨n, o, n1, n2, n3⟩ := N.inim hz hk hi
      obtain ⟨n', o', m1, m2, m3⟩ := N.wrm W a3 a4
      rw [a5] at m1
      have := N.vinj n1 m1; subst this
      rw [n2] at m2; injection m2 with m2; subst m2
      have hne : u ≠ u2 := fun h => by subst h; exact q (nodup_at Q.nd a1 hu)
      have := Q.ini n o u u2 n2 n3 m3 hne
      rw [idx_at Q.nd hu, idx_at Q.nd a1] at this
      omega
theorem RSR.finds (R : RSR hs A zs P i e st) (N : NP hs F A zs NM vars vers os ss fa ows G J) (W : WF hs F) (Q : POR hs A zs os ss P) {u : Nat} (hu : P[i]? = some u) {z : Ev} (hz : EvN hs A zs u e z) (hk : z.k = 0) (hi : z.i = false) : st z.x = some z.v := by
  obtain ⟨p, p1, p2⟩ := hz
  have hz : EvN hs A zs u e z := ⟨p, p1, p2⟩
  have hc : Cm hs p.1 p.2 := by
    obtain ⟨l, t, b1, b2, b3⟩ := ats_cm N.hA N.hp p1
    exact ⟨l, t, b1, b2, b3⟩
  obtain ⟨q, x0, f1, f2, f3, f4, f5⟩ := W.read Q.bas.1 p2 hk hi
  -- whatever the last write is
  have fin : ∀ (a u0 : Nat), P[a]? = some u0 → (ats A zs)[u0]? = some (q.s, q.k) → (a < i ∨ (a = i ∧ q.e < e)) → (∀ j e' x, WPos hs A zs P i e z.x j e' x → (a < j ∨ (j = a ∧ q.e < e')) → False) → st z.x = some z.v := fun a u0 h1 h2 h3 h4 => by
    have hw : WPos hs A zs P i e z.x a q.e x0 := ⟨u0, h1, h3, ⟨_, h2, f2⟩, f3, f5⟩
    cases hst : st z.x with
    | none => exact absurd hw (R.non _ hst _ _ _)
    | some c =>
      obtain ⟨j, e', x, b1, b2, b3⟩ := R.som _ _ hst
      have b4 := b3 _ _ _ hw
      have b5 : ¬ (a < j ∨ (j = a ∧ q.e < e')) := fun h => h4 j e' x b1 h
      have hj : a = j ∧ q.e = e' := by omega
      obtain ⟨rfl, rfl⟩ := hj
      obtain ⟨u3, c1, c2, ⟨p3, c3, c4⟩, _⟩ := b1
      rw [h1] at c1; injection c1 with c1; subst c1
      rw [h2] at c3; injection c3 with c3; subst c3
      have := c4.same f2; subst this
      rw [← b2, f4]
  by_cases ow : (ats A zs)[u]? = some (q.s, q.k)
  · rw [p1] at ow; injection ow with ow; subst ow
    obtain ⟨g1, g2⟩ := Q.bas.2.own _ _ _ _ p2 hc hk hi q.e x0 f2 f3 f4
    refine fin i u hu p1 (.inr ⟨rfl, g1⟩) (fun j e' x h1 h2 => ?_)
    obtain ⟨u3, c1, c2, ⟨p3, c3, c4⟩, c5, c6⟩ := h1
    have : j = i := by omega
    subst this
    rw [hu] at c1; injection c1 with c1; subst c1
    rw [p1] at c3; injection c3 with c3; subst c3
    exact g2 e' x (by omega) (by omega) c4 c5 c6
  · obtain ⟨k, s, k1, k2, k3⟩ := N.srm hz hk hi f1 ow
    obtain ⟨r, w, y, a1, a2, a3, a4, a5, a6, a7, a8, a9, a10, a11⟩ := N.srcR Q.bas.1 k1
    rw [k2] at a1; injection a1 with a1; subst a1
    rw [f1] at a2; injection a2 with a2; subst a2
    have := a5.same f2; subst this
    have hne : ¬ (q.s = p.1 ∧ q.k = p.2) := fun h => ow (by rw [p1]; exact congrArg some (Prod.ext h.1.symm h.2.symm))
    obtain ⟨g1, g2⟩ := Q.bas.2.oth _ _ _ _ p2 hc hk hi q.s q.k q.e y a5 a6 a7 hne
    have hrd := Q.rd k s k1 u k3
    rw [idx_at Q.nd hu] at hrd
    have hsm := (Q.mem s.wr).mpr a4
    obtain ⟨a, ha⟩ := List.getElem?_of_mem hsm
    rw [idx_at Q.nd ha] at hrd
    refine fin a s.wr ha a3 (.inl hrd) (fun j e' x h1 h2 => ?_)
    obtain ⟨u3, c1, c2, ⟨p3, c3, c4⟩, c5, c6⟩ := h1
    by_cases q1 : j = i
    · subst q1
      rw [hu] at c1; injection c1 with c1; subst c1
      rw [p1] at c3; injection c3 with c3; subst c3
      exact g1 e' x (by omega) c4 c5 c6
    · by_cases q2 : j = a
      · subst q2
        rw [ha] at c1; injection c1 with c1; subst c1
        rw [a3] at c3; injection c3 with c3; subst c3
        exact g2 e' x (by omega) c4 c5 (by rw [c6, f5])
      · obtain ⟨n, o, m1, m2, m3⟩ := N.wrm W (⟨p3, c3, c4⟩ : EvN hs A zs u3 e' x) c5
        rw [c6, ← f5] at m1
        have := N.vinj m1 a8; subst this
        refine Q.non k s o u3 u k1 m2 m3 k3 ?_ ?_
        · rw [idx_at Q.nd ha, idx_at Q.nd c1]; omega
        · rw [idx_at Q.nd hu, idx_at Q.nd c1]; omega
end
end Go.Proofs.YbulkctquGreatFmt

/-
  Plainly: the order that search finds, run again, gives every read what it returned.
-/
import Derived.Test.YbulkctquGreatFmtRwP
namespace Go.Proofs.YbulkctquGreatFmt
open Go.ChangeShapes Go.WideShapes Go.ChangeAt Go.RowKit Go.Ord
set_option linter.unusedVariables false

/-- What the order found keeps to. -/
structure POR (hs : List (List Tx)) (A : List Rk) (zs : List Nat) (os : List Ob) (ss : List Sr) (P : List Nat) : Prop where
  nd : P.Nodup
  mem : ∀ x, x ∈ P ↔ x < A.length
  rd : ∀ (k : Nat) (s : Sr), ss[k]? = some s → ∀ t ∈ s.rd, P.idxOf s.wr < P.idxOf t
  ses : ∀ (u x a b c : Nat), (ats A zs)[u]? = some (a, b) → (ats A zs)[x]? = some (a, c) → b < c → Befo P u x
  non : ∀ (k : Nat) (s : Sr) (o : Ob) (u t : Nat), ss[k]? = some s → os[s.ob]? = some o → u ∈ o.wr → t ∈ s.rd → P.idxOf s.wr < P.idxOf u → ¬ P.idxOf u < P.idxOf t
  ini : ∀ (x : Nat) (o : Ob) (t u : Nat), os[x]? = some o → t ∈ o.ini → u ∈ o.wr → t ≠ u → P.idxOf t < P.idxOf u
  bas : HOk hs ∧ ROk hs
theorem idx_at {P : List Nat} (nd : P.Nodup) {i u : Nat} (h : P[i]? = some u) : P.idxOf u = i := by
  have hl := (List.getElem?_eq_some_iff.mp h).1
  have hm := List.mem_of_getElem? h
  have h2 : P[P.idxOf u]? = some u := by
    have hlt := List.idxOf_lt_length_iff.mpr hm
    rw [List.getElem?_eq_getElem hlt]; simp
  exact nodup_at nd h2 h
section
variable {hs : List (List Tx)} {F : Nat → Option Wr} {A : List Rk} {zs : List Nat} {NM : Nat × Nat → Option Nat} {vars vers : List Nat} {os : List Ob} {ss : List Sr} {fa : List Int} {ows G : List (List Nat)} {J : List Bool} {D P : List Nat}
theorem idx_befo {P : List Nat} (nd : P.Nodup) {x y : Nat} (hx : x ∈ P) (hy : y ∈ P) (h : P.idxOf x < P.idxOf y) : Befo P x y := by
  rw [befo_at nd]
  have e : ∀ z ∈ P, P[P.idxOf z]? = some z := fun z hz => by
    have hlt := List.idxOf_lt_length_iff.mpr hz
    rw [List.getElem?_eq_getElem hlt]; simp
  exact ⟨_, _, h, e x hx, e y hy⟩
/-- The order that search gives. -/
theorem NP.por (N : NP hs F A zs NM vars vers os ss fa ows G J) (O : HOk hs) (Q : ROk hs) {G' : List (List Nat)} (hP : P = D.filter (fun v => !juncAt J v)) (tr : Trace G' J D) (hl : G'.length = G.length) (hsub : ∀ x y, y ∈ outs G x → y ∈ outs G' x) (rng : ∀ u x, x ∈ outs G' u → x < G'.length) (all : ∀ x, x < G.length → x ∈ D) (hn : NwI ss os P ss.length []) : POR hs A zs os ss P := by
  have C := N.cau O
  have nd : P.Nodup := by rw [hP]; exact List.Nodup.sublist List.filter_sublist tr.nodup
  have lo : ∀ x, x < A.length → x < G.length := fun x hx => by have := C.len; omega
  have mem : ∀ x, x ∈ P ↔ x < A.length := fun x => by
    rw [hP, List.mem_filter]
    constructor
    · rintro ⟨q1, q2⟩
      have h1 := tr.lt x q1
      rw [hl] at h1
      apply Classical.byContradiction
      intro h
      have := C.high x (by omega) h1
      simp [this] at q2
    · intro hx
      exact ⟨all x (lo x hx), by simp [C.low x hx]⟩
  have idxD : ∀ x y, x < A.length → y < A.length → D.idxOf x < D.idxOf y → P.idxOf x < P.idxOf y := fun x y hx hy h => by
    have hb := idx_befo tr.nodup (all x (lo x hx)) (all y (lo y hy)) h
    obtain ⟨D1, D2, e, hm⟩ := hb
    refine befo_idx ?_ nd
    rw [hP]
    exact befo_filter e hm (by simp [C.low x hx]) (by simp [C.low y hy])
  have rch : ∀ x y, x < A.length → y < A.length → x ≠ y → Rch G x y → P.idxOf x < P.idxOf y := fun x y hx hy hne h => by
    have h' : Rch G' x y := Rch.mono (fun u z hz => outs_arc (hsub u z hz.outs)) h
    rcases tr.rch (fun z hz => all z (by omega)) rng h' with e | ⟨_, _, e⟩
    · exact absurd e hne
    · exact idxD x y hx hy e
  have hat : ∀ {x : Nat} {p : Nat × Nat}, (ats A zs)[x]? = some p → x < A.length := fun h => by have := (List.getElem?_eq_some_iff.mp h).1; rw [ats_len N.hp] at this; exact this
  refine ⟨nd, mem, fun k s hk t ht => ?_, ?_, fun k s o u t hk ho hu ht h1 h2 => ?_, fun x o t u ho ht hu hne => ?_, O, Q⟩
  · obtain ⟨r, q, x, _, _, _, a4, _, _, _, _, _, _, a11⟩ := N.srcR O hk
    obtain ⟨b0, _, _, _, b1, _⟩ := a11 t ht
    exact rch _ _ a4 b1 (fun e => b0 e.symm) (N.arcW hk ht).rch
  · have key : ∀ (n u x a b c : Nat), c - b ≤ n → (ats A zs)[u]? = some (a, b) → (ats A zs)[x]? = some (a, c) → b < c → P.idxOf u < P.idxOf x := by
      intro n
      induction n with
      | zero => intro u x a b c hn h1 h2 h3; omega
      | succ n ih =>
        intro u x a b c hn h1 h2 h3
        by_cases hc : ∀ k', b < k' → k' < c → ¬ Cm hs a k'
        · refine rch _ _ (hat h1) (hat h2) (fun e => ?_) (N.arcS h1 h2 h3 hc).rch
          subst e
          rw [h1] at h2; injection h2 with h2; injection h2 with _ h2; omega
        · have : ∃ k', b < k' ∧ k' < c ∧ Cm hs a k' := by
            apply Classical.byContradiction
            intro q
            exact hc (fun k' g1 g2 g3 => q ⟨k', g1, g2, g3⟩)
          obtain ⟨k', g1, g2, g3⟩ := this
          obtain ⟨z, _, hz⟩ := ats_has N.hA N.hp (zs := zs) g3
          have w1 := ih u z a b k' (by omega) h1 hz g1
          have w2 := ih z x a k' c (by omega) hz h2 g2
          omega
    intro u x a b c h1 h2 h3
    exact idx_befo nd ((mem u).mpr (hat h1)) ((mem x).mpr (hat h2)) (key _ u x a b c (Nat.le_refl _) h1 h2 h3)
  · obtain ⟨p, hp, _⟩ := hn.cmp k s o u (List.getElem?_eq_some_iff.mp hk).1 hk ho hu h1 ⟨t, ht, h2⟩
    simp at hp
  · obtain ⟨y, hy, n1, n2, n3, w1, i1⟩ := N.obj ho
    obtain ⟨_, _, _, h1, _⟩ := i1 t ht
    obtain ⟨_, _, _, h2, _⟩ := w1 u hu
    obtain ⟨om, sm, c, Ge, G0, E, GA0, eG, eJ, _⟩ := N.ei
    refine rch _ _ h1 h2 hne ?_
    rw [eG]
    refine Rch.mono (fun _ _ h => overG_sup _ _ _ h) (initG_rch os G0 (fun o' ho' t' ht' => ?_) (List.mem_of_getElem? ho) ht hu hne)
    obtain ⟨x', hx'⟩ := List.getElem?_of_mem ho'
    obtain ⟨_, _, _, _, _, _, i2⟩ := N.obj hx'
    obtain ⟨_, _, _, h, _⟩ := i2 t' ht'
    rw [GA0.len]; exact h
/-- The state while the order is run again: of each variable the last write. -/
def WPos (hs : List (List Tx)) (A : List Rk) (zs : List Nat) (P : List Nat) (i e : Nat) (y j e' : Nat) (x : Ev) : Prop := ∃ u, P[j]? = some u ∧ (j < i ∨ (j = i ∧ e' < e)) ∧ EvN hs A zs u e' x ∧ x.k = 1 ∧ x.x = y
structure RSR (hs : List (List Tx)) (A : List Rk) (zs : List Nat) (P : List Nat) (i e : Nat) (st : Nat → Option Nat) : Prop where
  som : ∀ y c, st y = some c → ∃ j e' x, WPos hs A zs P i e y j e' x ∧ x.v = c ∧ ∀ j2 e2 x2, WPos hs A zs P i e y j2 e2 x2 → j2 < j ∨ (j2 = j ∧ e2 ≤ e')
  non : ∀ y, st y = none → ∀ j e' x, ¬ WPos hs A zs P i e y j e' x
variable {i e : Nat} {st : Nat → Option Nat}
theorem RSR.start : RSR hs A zs P 0 0 (fun _ => none) :=
  ⟨fun y c h => by simp at h, fun y _ j e' x h => by obtain ⟨u, _, h, _⟩ := h; omega⟩
theorem RSR.same {i' e' : Nat} (R : RSR hs A zs P i e st) (h : ∀ y j e2 x, WPos hs A zs P i e y j e2 x ↔ WPos hs A zs P i' e' y j e2 x) : RSR hs A zs P i' e' st := by
  refine ⟨fun y c hc => ?_, fun y hy j e2 x hx => R.non y hy j e2 x ((h _ _ _ _).mpr hx)⟩
  obtain ⟨j, e2, x, h1, h2, h3⟩ := R.som y c hc
  exact ⟨j, e2, x, (h _ _ _ _).mp h1, h2, fun j2 e3 x2 hx => h3 j2 e3 x2 ((h _ _ _ _).mpr hx)⟩
theorem RSR.pass (R : RSR hs A zs P i e st) {u : Nat} (hu : P[i]? = some u) {z : Ev} (hz : EvN hs A zs u e z) (hk : z.k = 0) : RSR hs A zs P i (e + 1) st := by
  refine R.same (fun y j e2 x => ⟨fun ⟨u2, a, b, c⟩ => ⟨u2, a, by omega, c⟩, fun ⟨u2, a, b, c, d, f⟩ => ⟨u2, a, ?_, c, d, f⟩⟩)
  by_cases q : j = i ∧ e2 = e
  · obtain ⟨rfl, rfl⟩ := q
    rw [hu] at a; injection a with a; subst a
    have := c.same hz; subst this; omega
  · omega
theorem RSR.write (R : RSR hs A zs P i e st) {u : Nat} (hu : P[i]? = some u) {z : Ev} (hz : EvN hs A zs u e z) (hk : z.k = 1) : RSR hs A zs P i (e + 1) (fun y => if y = z.x then some z.v else st y) := by
  have stp : ∀ y j e2 x, WPos hs A zs P i (e + 1) y j e2 x → WPos hs A zs P i e y j e2 x ∨ (j = i ∧ e2 = e ∧ x = z ∧ z.x = y) := fun y j e2 x ⟨u2, a, b, c, d, f⟩ => by
    by_cases q : j = i ∧ e2 = e
    · obtain ⟨rfl, rfl⟩ := q
      rw [hu] at a; injection a with a; subst a
      have := c.same hz; subst this
      exact .inr ⟨rfl, rfl, rfl, f⟩
    · exact .inl ⟨u2, a, by omega, c, d, f⟩
  have up : ∀ y j e2 x, WPos hs A zs P i e y j e2 x → WPos hs A zs P i (e + 1) y j e2 x := fun y j e2 x ⟨u2, a, b, c⟩ => ⟨u2, a, by omega, c⟩
  refine ⟨fun y c hc => ?_, fun y hy j e2 x hx => ?_⟩
  · by_cases q : y = z.x
    · subst q
      simp at hc
      refine ⟨i, e, z, ⟨u, hu, by omega, hz, hk, rfl⟩, hc, fun j2 e2 x2 hx => ?_⟩
      obtain ⟨_, _, b, _⟩ := hx
      omega
    · simp only [if_neg q] at hc
      obtain ⟨j, e2, x, h1, h2, h3⟩ := R.som y c hc
      refine ⟨j, e2, x, up _ _ _ _ h1, h2, fun j2 e3 x2 hx => ?_⟩
      rcases stp _ _ _ _ hx with h | ⟨_, _, _, h⟩
      · exact h3 _ _ _ h
      · exact absurd h.symm q
  · by_cases q : y = z.x
    · simp [q] at hy
    · simp only [if_neg q] at hy
      rcases stp _ _ _ _ hx with h | ⟨_, _, _, h⟩
      · exact R.non y hy _ _ _ h
      · exact absurd h.symm q
theorem RSR.next (R : RSR hs A zs P i e st) {u : Nat} (hu : P[i]? = some u) (he : ∀ (e' : Nat) (x : Ev), EvN hs A zs u e' x → e' < e) : RSR hs A zs P (i + 1) 0 st := by
  refine R.same (fun y j e2 x => ⟨fun ⟨u2, a, b, c⟩ => ⟨u2, a, by omega, c⟩, fun ⟨u2, a, b, c, d, f⟩ => ⟨u2, a, ?_, c, d, f⟩⟩)
  by_cases q : j = i
  · subst q
    rw [hu] at a; injection a with a; subst a
    exact .inr ⟨rfl, he _ _ c⟩
  · omega
end
end Go.Proofs.YbulkctquGreatFmt

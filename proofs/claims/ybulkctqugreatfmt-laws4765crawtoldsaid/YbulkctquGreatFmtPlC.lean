/-
  Plainly: the polygraph of a serial history, and the order that is placed.
-/
import Derived.Test.YbulkctquGreatFmtNspF
import Derived.Test.YbulkctquGreatFmtPlS
namespace Go.Proofs.YbulkctquGreatFmt
open Go.ChangeShapes Go.WideShapes Go.ChangeAt Go.RowKit Go.Ord
set_option linter.unusedVariables false

/-- What newSessionPolygraph leaves. -/
structure NP (hs : List (List Tx)) (F : Nat → Option Wr) (A : List Rk) (zs : List Nat) (NM : Nat × Nat → Option Nat) (vars vers : List Nat) (os : List Ob) (ss : List Sr) (fa : List Int) (ows G : List (List Nat)) (J : List Bool) : Prop where
  hA : A = rksAll 0 hs
  hp : zs.Perm (List.range A.length)
  hz : Sorted A zs
  nmi : NMI A zs A.length NM
  ei : ∃ (om sm : Nat → Option Nat) (c : Nat) (Ge G0 : List (List Nat)), EI hs F A zs NM A.length 0 om sm vars vers os ss Ge c ∧ GA hs A zs Ge hs.length 0 (-1) G0 ∧ G = overG (initG G0 os) ss ows ∧ J = overJ (initJ (List.replicate A.length false) os) ss ows ∧ wt Ge ≤ 60000
  faI : ∀ (j : Nat) (i : Int), fa[j]? = some i → i = -1 ∨ ∃ y : Nat, i = (y : Int) ∧ FaOk hs A zs vars ss j y
  owf : OWF ss os fa A.length ows
/-- A node's time. -/
def tN (T : Nat → Nat → Nat) (A : List Rk) (zs : List Nat) (u : Nat) : Nat := match (ats A zs)[u]? with | some p => T p.1 p.2 | none => 0
theorem tN_at {T : Nat → Nat → Nat} {A : List Rk} {zs : List Nat} {u : Nat} {p : Nat × Nat} (h : (ats A zs)[u]? = some p) : tN T A zs u = T p.1 p.2 := by simp [tN, h]
theorem evN_lt {hs : List (List Tx)} {A : List Rk} {zs : List Nat} (hp : zs.Perm (List.range A.length)) {u i : Nat} {x : Ev} (h : EvN hs A zs u i x) : u < A.length := by
  obtain ⟨p, h1, _⟩ := h
  have := (List.getElem?_eq_some_iff.mp h1).1
  rw [ats_len hp] at this; exact this
theorem done_all {hs : List (List Tx)} {A : List Rk} {zs : List Nat} (hp : zs.Perm (List.range A.length)) {u i : Nat} {x : Ev} (h : EvN hs A zs u i x) : Done A.length 0 u i := .inl (evN_lt hp h)
section
variable {hs : List (List Tx)} {T : Nat → Nat → Nat} {F : Nat → Option Wr} {A : List Rk} {zs : List Nat} {NM : Nat × Nat → Option Nat} {vars vers : List Nat} {os : List Ob} {ss : List Sr} {fa : List Int} {ows G : List (List Nat)} {J : List Bool}
theorem Ser.tNe (S : Ser hs T) (hA : A = rksAll 0 hs) (hp : zs.Perm (List.range A.length)) {t u : Nat} {p q : Nat × Nat} (h1 : (ats A zs)[t]? = some p) (h2 : (ats A zs)[u]? = some q) (hne : t ≠ u) : T p.1 p.2 ≠ T q.1 q.2 := by
  intro e
  obtain ⟨l, x, a1, a2, _⟩ := ats_cm hA hp h1
  obtain ⟨l', x', b1, b2, _⟩ := ats_cm hA hp h2
  obtain ⟨c1, c2⟩ := S.inj _ _ _ _ _ _ a1 (List.getElem?_eq_some_iff.mp a2).1 b1 (List.getElem?_eq_some_iff.mp b2).1 e
  have : p = q := Prod.ext c1 c2
  subst this
  exact hne (ats_inj hA hp h1 h2)
/-- A source: its write, and its readers. -/
theorem NP.src (N : NP hs F A zs NM vars vers os ss fa ows G J) (S : Ser hs T) (W : WF hs F) {k : Nat} {s : Sr} (hk : ss[k]? = some s) :
    ∃ (a b e : Nat) (x : Ev), (ats A zs)[s.wr]? = some (a, b) ∧ s.wr < A.length ∧ At hs a b e x ∧ x.k = 1 ∧ vars[s.ob]? = some x.x ∧ s.rd.Nodup ∧
      ∀ t ∈ s.rd, ∃ (p : Nat × Nat) (i : Nat) (v : Ev), t < A.length ∧ (ats A zs)[t]? = some p ∧ At hs p.1 p.2 i v ∧ v.k = 0 ∧ v.i = false ∧ v.v = x.v ∧ v.x = x.x ∧ T a b < T p.1 p.2 := by
  obtain ⟨om, sm, c, Ge, G0, E, _⟩ := N.ei
  obtain ⟨r, hr⟩ := has_at vers (k := k) (by rw [E.lenS]; exact (List.getElem?_eq_some_iff.mp hk).1)
  obtain ⟨⟨q, x, a1, a2, a3, a4, a5, a6, a7⟩, b1, b2⟩ := E.srI k s r hk hr
  obtain ⟨n1, n2⟩ := N.nmi.fwd _ _ a2
  refine ⟨q.s, q.k, q.e, x, n2, n1, a3, a4, a6, ?_, fun t ht => ?_⟩
  · rw [List.nodup_iff_pairwise_ne]; exact b2.imp (fun h => by omega)
  · obtain ⟨⟨i, v, c1, ⟨p, c2, c3⟩, c4, c5, c6⟩, c7⟩ := (b1 t).mp ht
    obtain ⟨_, ⟨s', k', e', x', d1, d2, d3, d4, d5, d6⟩, _⟩ := S.rd _ _ _ _ c3 c4 c5
    obtain ⟨rfl, rfl, rfl⟩ := S.uniq d1 a3 d2 a4 (by omega)
    have := d1.same a3
    subst this
    refine ⟨p, i, v, evN_lt N.hp ⟨p, c2, c3⟩, c2, c3, c4, c5, by omega, d4.symm, ?_⟩
    rcases d6 with d6 | ⟨f1, f2, _⟩
    · exact d6
    · exact absurd ⟨q, a1, by rw [c2, f1, f2]⟩ c7
theorem NP.obj (N : NP hs F A zs NM vars vers os ss fa ows G J) {x : Nat} {o : Ob} (ho : os[x]? = some o) :
    ∃ y, vars[x]? = some y ∧ o.wr.Nodup ∧ o.ini.Nodup ∧ o.rk.length = o.wr.length ∧ (∀ u ∈ o.wr, ∃ (p : Nat × Nat) (i : Nat) (v : Ev), u < A.length ∧ (ats A zs)[u]? = some p ∧ At hs p.1 p.2 i v ∧ v.k = 1 ∧ v.x = y) ∧
      (∀ u ∈ o.ini, ∃ (p : Nat × Nat) (i : Nat) (v : Ev), u < A.length ∧ (ats A zs)[u]? = some p ∧ At hs p.1 p.2 i v ∧ v.k = 0 ∧ v.i = true ∧ v.x = y) := by
  obtain ⟨om, sm, c, Ge, G0, E, _⟩ := N.ei
  obtain ⟨y, hy⟩ := has_at vars (k := x) (by rw [E.lenO]; exact (List.getElem?_eq_some_iff.mp ho).1)
  obtain ⟨a1, a2, a3, a4, a5⟩ := E.obI x o y ho hy
  refine ⟨y, hy, a2, a4, a5, fun u hu => ?_, fun u hu => ?_⟩
  · obtain ⟨i, v, b1, ⟨p, b2, b3⟩, b4, b5, b6⟩ := (a1 u).mp hu
    exact ⟨p, i, v, evN_lt N.hp ⟨p, b2, b3⟩, b2, b3, b4, b5⟩
  · obtain ⟨i, v, b1, ⟨p, b2, b3⟩, b4, b5, b6⟩ := (a3 u).mp hu
    exact ⟨p, i, v, evN_lt N.hp ⟨p, b2, b3⟩, b2, b3, b4, b5, b6⟩
/-- An overwriter that comes later than the source's write comes later than its readers. -/
theorem NP.later (N : NP hs F A zs NM vars vers os ss fa ows G J) (S : Ser hs T) (W : WF hs F) {k : Nat} {s : Sr} (hk : ss[k]? = some s) {t u : Nat} (ht : t ∈ s.rd) {q : Nat × Nat} (hu : (ats A zs)[u]? = some q) {e : Nat} {y : Ev} (hy : At hs q.1 q.2 e y) (hy1 : y.k = 1) (hyx : vars[s.ob]? = some y.x) (hT : tN T A zs s.wr < tN T A zs u) (hne : t ≠ u) : tN T A zs t < tN T A zs u := by
  obtain ⟨a, b, e0, x, a1, a2, a3, a4, a5, a6, a7⟩ := N.src S W hk
  obtain ⟨p, i, v, b1, b2, b3, b4, b5, b6, b7, b8⟩ := a7 t ht
  rw [tN_at a1, tN_at hu] at hT
  rw [tN_at b2, tN_at hu]
  have h1 := S.tNe N.hA N.hp b2 hu hne
  have : ¬ T q.1 q.2 < T p.1 p.2 := by
    intro hlt
    obtain ⟨_, _, m⟩ := S.rd _ _ _ _ b3 b4 b5
    rw [a5] at hyx
    injection hyx with hyx
    have h2 := m _ _ _ _ hy (ats_cm N.hA N.hp hu) hy1 (by rw [← hyx, b7]) (.inl hlt)
    have h3 := S.grow _ _ _ _ _ _ _ _ a3 hy a4 hy1 (.inl hT)
    omega
  omega
theorem NP.fwd (N : NP hs F A zs NM vars vers os ss fa ows G J) (S : Ser hs T) (W : WF hs F) : Fwd A.length (tN T A zs) G J := by
  obtain ⟨om, sm, c, Ge, G0, E, GAI, eG, eJ, _⟩ := N.ei
  have f0 : Fwd A.length (tN T A zs) G0 (List.replicate A.length false) := by
    refine ⟨by rw [GAI.len]; exact Nat.le_refl _, by simp [GAI.len], fun v hv => by simp [juncAt, hv], fun v h1 h2 => by rw [GAI.len] at h2; omega, fun u => 2 * tN T A zs u, fun _ _ => rfl, fun u x hx => ?_⟩
    rw [GAI.len]
    rcases (GAI.arcs u x).mp hx with hx | ⟨a, b, c, q1, q2, q3, q4, q5⟩
    · obtain ⟨k, s, h1, h2, h3⟩ := (E.arcs u x).mp hx
      obtain ⟨a, b, e0, y, a1, a2, a3, a4, a5, a6, a7⟩ := N.src S W h1
      obtain ⟨p, i, v, b1, b2, b3, b4, b5, b6, b7, b8⟩ := a7 x h3
      rw [h2] at a1
      simp only
      rw [tN_at a1, tN_at b2]
      refine ⟨b1, ?_⟩
      show 2 * T a b < 2 * T p.1 p.2
      omega
    · have hl : x < A.length := by have := (List.getElem?_eq_some_iff.mp q2).1; rw [ats_len N.hp] at this; exact this
      simp only
      rw [tN_at q1, tN_at q2]
      obtain ⟨l, t, g1, g2, _⟩ := ats_cm N.hA N.hp q2
      have hm : T a b < T a c := S.mono _ _ _ _ g1 (List.getElem?_eq_some_iff.mp g2).1 q3
      refine ⟨hl, ?_⟩
      show 2 * T a b < 2 * T a c
      omega
  have f1 : Fwd A.length (tN T A zs) (initG G0 os) (initJ (List.replicate A.length false) os) := by
    refine Fwd.init os _ _ f0 (fun o ho => ?_)
    obtain ⟨x, hx⟩ := List.getElem?_of_mem ho
    obtain ⟨y, _, b1, b2, _, b3, b4⟩ := N.obj hx
    refine ⟨fun t ht => ?_, fun t ht => ?_, b2, fun t ht u hu hne => ?_⟩
    · obtain ⟨_, _, _, h, _⟩ := b4 t ht; exact h
    · obtain ⟨_, _, _, h, _⟩ := b3 t ht; exact h
    · obtain ⟨p, i, v, c1, c2, c3, c4, c5, c6⟩ := b4 t ht
      obtain ⟨p', i', v', d1, d2, d3, d4, d5⟩ := b3 u hu
      rw [tN_at c2, tN_at d2]
      have h1 := S.tNe N.hA N.hp c2 d2 hne
      have h2 := S.ri _ _ _ _ c3 (ats_cm N.hA N.hp c2) c4 c5 _ _ _ _ d3 (ats_cm N.hA N.hp d2) d4 (by rw [d5, c6])
      have : ¬ T p'.1 p'.2 < T p.1 p.2 := fun h => h2 (.inl h)
      omega
  rw [eG, eJ]
  refine Fwd.over ss ows _ _ f1 (fun k s r hk hr => ?_)
  obtain ⟨a, b, e0, y, a1, a2, a3, a4, a5, a6, a7⟩ := N.src S W hk
  have key : ∀ u ∈ r, u < A.length ∧ ∃ (q : Nat × Nat) (e : Nat) (z : Ev), (ats A zs)[u]? = some q ∧ At hs q.1 q.2 e z ∧ z.k = 1 ∧ vars[s.ob]? = some z.x ∧ tN T A zs s.wr < tN T A zs u := by
    intro u hu
    rcases (N.owf.row k r hr).2 u hu with ⟨i, h1, h2, h3⟩ | ⟨h1, s1, o, h2, h3, h4, k', s', h5, h6, h7⟩
    · rcases N.faI k i h1 with h4 | ⟨z, h4, h5⟩
      · omega
      · have : u = z := by omega
        subst this
        obtain ⟨g1, sj, a', b', c', g2, g3, g4, g5, e, x, g6, g7, g8⟩ := h5
        rw [hk] at g2; cases g2
        refine ⟨g1, (a', c'), e, x, g4, g6, g7, g8, ?_⟩
        rw [tN_at g3, tN_at g4]
        obtain ⟨l, t, w1, w2, _⟩ := ats_cm N.hA N.hp g4
        exact S.mono _ _ _ _ w1 (List.getElem?_eq_some_iff.mp w2).1 g5
    · rw [hk] at h2; cases h2
      obtain ⟨y', q1, _, _, _, q2, _⟩ := N.obj h3
      obtain ⟨p, i, v, c1, c2, c3, c4, c5⟩ := q2 u h4
      refine ⟨h1, p, i, v, c2, c3, c4, by rw [q1, c5], ?_⟩
      obtain ⟨a', b', e', y2, d1, d2, d3, d4, d5, d6, d7⟩ := N.src S W h5
      obtain ⟨p', i', v', g1, g2, g3, g4, g5, g6, g7, g8⟩ := d7 u h7
      rw [h6] at d1
      rw [tN_at d1, tN_at g2]; exact g8
  refine ⟨fun t ht => ?_, fun u hu => (key u hu).1, a6, fun t ht u hu hne => ?_⟩
  · obtain ⟨_, _, _, h, _⟩ := a7 t ht; exact h
  · obtain ⟨_, q, e, z, k1, k2, k3, k4, k5⟩ := key u hu
    exact N.later S W hk ht k1 k2 k3 k4 k5 hne
theorem NP.arcW (N : NP hs F A zs NM vars vers os ss fa ows G J) {k : Nat} {s : Sr} (hk : ss[k]? = some s) {t : Nat} (ht : t ∈ s.rd) : Arc G s.wr t := by
  obtain ⟨om, sm, c, Ge, G0, E, GAI, eG, eJ, _⟩ := N.ei
  rw [eG]
  exact overG_sup _ _ _ (initG_sup _ _ ((GAI.arcs _ _).mpr (.inl ((E.arcs _ _).mpr ⟨k, s, hk, rfl, ht⟩))))
theorem NP.arcS (N : NP hs F A zs NM vars vers os ss fa ows G J) {u x a b c : Nat} (h1 : (ats A zs)[u]? = some (a, b)) (h2 : (ats A zs)[x]? = some (a, c)) (h3 : b < c) (h4 : ∀ k', b < k' → k' < c → ¬ Cm hs a k') : Arc G u x := by
  obtain ⟨om, sm, c', Ge, G0, E, GAI, eG, eJ, _⟩ := N.ei
  rw [eG]
  obtain ⟨l, t, w1, w2, _⟩ := ats_cm N.hA N.hp h2
  exact overG_sup _ _ _ (initG_sup _ _ ((GAI.arcs _ _).mpr (.inr ⟨a, b, c, h1, h2, h3, h4, .inl (List.getElem?_eq_some_iff.mp w1).1⟩)))
end
theorem befo_at {P : List Nat} (hn : P.Nodup) {x y : Nat} : Befo P x y ↔ ∃ i j : Nat, i < j ∧ P[i]? = some x ∧ P[j]? = some y := by
  constructor
  · rintro ⟨P1, P2, e, hx⟩
    obtain ⟨i, hi⟩ := List.getElem?_of_mem hx
    have hil := (List.getElem?_eq_some_iff.mp hi).1
    exact ⟨i, P1.length, hil, by rw [e, List.getElem?_append_left hil]; exact hi, by rw [e]; simp⟩
  · rintro ⟨i, j, h1, h2, h3⟩
    obtain ⟨b1, b2⟩ := List.getElem?_eq_some_iff.mp h3
    refine ⟨P.take j, P.drop (j + 1), ?_, ?_⟩
    · rw [← b2, ← List.drop_eq_getElem_cons b1, List.take_append_drop]
    · exact List.mem_of_getElem? (i := i) (by rw [List.getElem?_take, if_pos h1]; exact h2)
theorem nodup_at {P : List Nat} (hn : P.Nodup) {i j x : Nat} (h1 : P[i]? = some x) (h2 : P[j]? = some x) : i = j := by
  rw [List.nodup_iff_pairwise_ne, List.pairwise_iff_getElem] at hn
  obtain ⟨x1, x2⟩ := List.getElem?_eq_some_iff.mp h1
  obtain ⟨y1, y2⟩ := List.getElem?_eq_some_iff.mp h2
  rcases Nat.lt_trichotomy i j with c | c | c
  · exact absurd (x2.trans y2.symm) (hn i j x1 y1 c)
  · exact c
  · exact absurd (y2.trans x2.symm) (hn j i y1 x1 c)
/-- What the placed order keeps to. -/
structure PO (hs : List (List Tx)) (A : List Rk) (zs : List Nat) (T : Nat → Nat → Nat) (ss : List Sr) (P : List Nat) : Prop where
  nd : P.Nodup
  mem : ∀ x, x ∈ P ↔ x < A.length
  wr : ∀ (x w : Nat) (p q : Nat × Nat) (e : Nat) (y : Ev), (ats A zs)[x]? = some p → (ats A zs)[w]? = some q → T p.1 p.2 < T q.1 q.2 → At hs q.1 q.2 e y → y.k = 1 → Befo P x w
  rd : ∀ (k : Nat) (s : Sr), ss[k]? = some s → ∀ t ∈ s.rd, Befo P s.wr t
  ses : ∀ (u x a b c : Nat), (ats A zs)[u]? = some (a, b) → (ats A zs)[x]? = some (a, c) → b < c → Befo P u x
section
variable {hs : List (List Tx)} {T : Nat → Nat → Nat} {F : Nat → Option Wr} {A : List Rk} {zs : List Nat} {NM : Nat × Nat → Option Nat} {vars vers : List Nat} {os : List Ob} {ss : List Sr} {fa : List Int} {ows G : List (List Nat)} {J : List Bool} {D : List Nat}
theorem NP.placed (N : NP hs F A zs NM vars vers os ss fa ows G J) (S : Ser hs T) (W : WF hs F) (tr : Trace G J D) (hd : ∀ x, x < G.length → x ∉ D → cnt G D x ≠ 0) : PO hs A zs T ss (D.filter (fun v => !juncAt J v)) := by
  have Fw := N.fwd S W
  obtain ⟨nd, mem⟩ := Fw.placed tr hd
  have alen : ∀ {u : Nat} {p : Nat × Nat}, (ats A zs)[u]? = some p → u < A.length := fun h => by have := (List.getElem?_eq_some_iff.mp h).1; rw [ats_len N.hp] at this; exact this
  refine ⟨nd, mem, fun x w p q e y h1 h2 h3 h4 h5 => ?_, fun k s hk t ht => ?_, ?_⟩
  · refine Fw.behind tr hd (alen h1) (alen h2) (by rw [tN_at h1, tN_at h2]; exact h3) (fun z hz hlt => ?_)
    obtain ⟨pz, hpz⟩ := has_at (ats A zs) (k := z) (by rw [ats_len N.hp]; exact hz)
    rw [tN_at hpz, tN_at h2] at hlt
    exact S.above N.hA N.hp N.hz hpz h2 hlt h4 h5
  · obtain ⟨a, b, e0, y, a1, a2, a3, a4, a5, a6, a7⟩ := N.src S W hk
    obtain ⟨_, _, _, h, _⟩ := a7 t ht
    exact Fw.along tr hd a2 h (N.arcW hk ht)
  · have key : ∀ (n u x a b c : Nat), c - b ≤ n → (ats A zs)[u]? = some (a, b) → (ats A zs)[x]? = some (a, c) → b < c → Befo (D.filter (fun v => !juncAt J v)) u x := by
      intro n
      induction n with
      | zero => intro u x a b c hn h1 h2 h3; omega
      | succ n ih =>
        intro u x a b c hn h1 h2 h3
        by_cases hc : ∀ k', b < k' → k' < c → ¬ Cm hs a k'
        · exact Fw.along tr hd (alen h1) (alen h2) (N.arcS h1 h2 h3 hc)
        · have : ∃ k', b < k' ∧ k' < c ∧ Cm hs a k' := by
            apply Classical.byContradiction
            intro q
            exact hc (fun k' g1 g2 g3 => q ⟨k', g1, g2, g3⟩)
          obtain ⟨k', g1, g2, g3⟩ := this
          obtain ⟨z, _, hz⟩ := ats_has N.hA N.hp (zs := zs) g3
          have w1 := ih u z a b k' (by omega) h1 hz g1
          have w2 := ih z x a k' c (by omega) hz h2 g2
          rw [befo_at nd] at w1 w2 ⊢
          obtain ⟨i, j, r1, r2, r3⟩ := w1
          obtain ⟨i', j', r1', r2', r3'⟩ := w2
          have := nodup_at nd r3 r2'
          exact ⟨i, j', by omega, r2, r3'⟩
    exact fun u x a b c h1 h2 h3 => key _ u x a b c (Nat.le_refl _) h1 h2 h3
/-- Nothing is taken up. -/
theorem NP.none (N : NP hs F A zs NM vars vers os ss fa ows G J) (S : Ser hs T) (W : WF hs F) {P : List Nat} (Q : PO hs A zs T ss P) {k : Nat} {s : Sr} {o : Ob} (hk : ss[k]? = some s) (ho : os[s.ob]? = some o) {t u : Nat} (ht : t ∈ s.rd) (hu : u ∈ o.wr) (hb : Befo P s.wr u) : t = u ∨ Befo P t u := by
  by_cases hne : t = u
  · exact .inl hne
  right
  obtain ⟨a, b, e0, x, a1, a2, a3, a4, a5, a6, a7⟩ := N.src S W hk
  obtain ⟨p, i, v, b1, b2, b3, b4, b5, b6, b7, b8⟩ := a7 t ht
  obtain ⟨y, c1, _, _, _, c2, _⟩ := N.obj ho
  obtain ⟨q, i', z, d1, d2, d3, d4, d5⟩ := c2 u hu
  have hwu : s.wr ≠ u := by
    rintro h
    rw [befo_at Q.nd] at hb
    obtain ⟨i, j, r1, r2, r3⟩ := hb
    rw [← h] at r3
    have := nodup_at Q.nd r2 r3
    omega
  have h1 := S.tNe N.hA N.hp a1 d2 hwu
  have h2 : T a b < T q.1 q.2 := by
    have : ¬ T q.1 q.2 < T a b := by
      intro hlt
      have := Q.wr u s.wr q (a, b) e0 x d2 a1 hlt a3 a4
      rw [befo_at Q.nd] at this hb
      obtain ⟨i, j, r1, r2, r3⟩ := this
      obtain ⟨i2, j2, r1', r2', r3'⟩ := hb
      have := nodup_at Q.nd r2 r3'
      have := nodup_at Q.nd r3 r2'
      omega
    simp only at h1
    omega
  have h3 := N.later S W hk ht d2 d3 d4 (by rw [c1, d5]) (by rw [tN_at a1, tN_at d2]; exact h2) hne
  rw [tN_at b2, tN_at d2] at h3
  exact Q.wr t u p q i' z b2 d2 h3 d3 d4
/-- The state while the placed order is run again. -/
def WBef (hs : List (List Tx)) (A : List Rk) (zs : List Nat) (P : List Nat) (i e : Nat) (y : Nat) (x : Ev) : Prop := ∃ j u e', P[j]? = some u ∧ (j < i ∨ (j = i ∧ e' < e)) ∧ EvN hs A zs u e' x ∧ x.k = 1 ∧ x.x = y
structure RS (hs : List (List Tx)) (A : List Rk) (zs : List Nat) (P : List Nat) (i e : Nat) (st : Nat → Option Nat) : Prop where
  som : ∀ y c, st y = some c → ∃ x, WBef hs A zs P i e y x ∧ x.v = c
  all : ∀ y x, WBef hs A zs P i e y x → ∃ c, st y = some c ∧ x.v ≤ c
variable {P : List Nat} {i e : Nat} {st : Nat → Option Nat}
theorem RS.start : RS hs A zs P 0 0 (fun _ => none) :=
  ⟨fun y c h => by simp at h, fun y x h => by obtain ⟨j, u, e', _, h, _⟩ := h; omega⟩
/-- A write that stands before in the placed order stands before in time. -/
theorem PO.pre (Q : PO hs A zs T ss P) (S : Ser hs T) (hA : A = rksAll 0 hs) (hp : zs.Perm (List.range A.length)) {u : Nat} {p : Nat × Nat} (hu : P[i]? = some u) (ha : (ats A zs)[u]? = some p) {y : Nat} {x : Ev} (h : WBef hs A zs P i e y x) : ∃ q : Nat × Nat, ∃ e', At hs q.1 q.2 e' x ∧ Cm hs q.1 q.2 ∧ x.k = 1 ∧ x.x = y ∧ Pre T q.1 q.2 e' p.1 p.2 e := by
  obtain ⟨j, w, e', h1, h2, ⟨q, h3, h4⟩, h5, h6⟩ := h
  refine ⟨q, e', h4, ats_cm hA hp h3, h5, h6, ?_⟩
  rcases h2 with h2 | ⟨rfl, h2⟩
  · left
    have hne : w ≠ u := by rintro rfl; have := nodup_at Q.nd h1 hu; omega
    have h7 := S.tNe hA hp h3 ha hne
    have : ¬ T p.1 p.2 < T q.1 q.2 := by
      intro hlt
      have := Q.wr u w p q e' x ha h3 hlt h4 h5
      rw [befo_at Q.nd] at this
      obtain ⟨i1, j1, r1, r2, r3⟩ := this
      have := nodup_at Q.nd r2 hu
      have := nodup_at Q.nd r3 h1
      omega
    omega
  · right
    rw [hu] at h1; cases h1
    rw [ha] at h3; cases h3
    exact ⟨rfl, rfl, h2⟩
theorem RS.read (R : RS hs A zs P i e st) : RS hs A zs P i e st := R
theorem WBef.step {u : Nat} (hu : P[i]? = some u) {z : Ev} (hz : EvN hs A zs u e z) {y : Nat} {x : Ev} : WBef hs A zs P i (e + 1) y x ↔ WBef hs A zs P i e y x ∨ (x = z ∧ z.k = 1 ∧ z.x = y) := by
  constructor
  · rintro ⟨j, w, e', h1, h2, h3, h4, h5⟩
    by_cases c : j = i ∧ e' = e
    · obtain ⟨rfl, rfl⟩ := c
      rw [hu] at h1; cases h1
      have := h3.same hz
      subst this
      exact .inr ⟨rfl, h4, h5⟩
    · exact .inl ⟨j, w, e', h1, by omega, h3, h4, h5⟩
  · rintro (⟨j, w, e', h1, h2, h3⟩ | ⟨rfl, h4, h5⟩)
    · exact ⟨j, w, e', h1, by omega, h3⟩
    · exact ⟨i, u, e, hu, .inr ⟨rfl, by omega⟩, hz, h4, h5⟩
theorem RS.pass (R : RS hs A zs P i e st) {u : Nat} (hu : P[i]? = some u) {z : Ev} (hz : EvN hs A zs u e z) (hk : z.k = 0) : RS hs A zs P i (e + 1) st := by
  have key : ∀ y x, WBef hs A zs P i (e + 1) y x ↔ WBef hs A zs P i e y x := fun y x => (WBef.step hu hz).trans ⟨fun h => h.elim id (fun h => by omega), .inl⟩
  exact ⟨fun y c h => by obtain ⟨x, a, b⟩ := R.som y c h; exact ⟨x, (key y x).mpr a, b⟩, fun y x h => R.all y x ((key y x).mp h)⟩
theorem RS.write (R : RS hs A zs P i e st) (Q : PO hs A zs T ss P) (S : Ser hs T) (hA : A = rksAll 0 hs) (hp : zs.Perm (List.range A.length)) {u : Nat} (hu : P[i]? = some u) {z : Ev} (hz : EvN hs A zs u e z) (hk : z.k = 1) : RS hs A zs P i (e + 1) (fun y => if y = z.x then some z.v else st y) := by
  obtain ⟨p, hz1, hz2⟩ := id hz
  refine ⟨fun y c h => ?_, fun y x h => ?_⟩
  · by_cases cy : y = z.x
    · simp [cy] at h; exact ⟨z, (WBef.step hu hz).mpr (.inr ⟨rfl, hk, cy.symm⟩), h⟩
    · simp [cy] at h
      obtain ⟨x, a, b⟩ := R.som y c h
      exact ⟨x, (WBef.step hu hz).mpr (.inl a), b⟩
  · rcases (WBef.step hu hz).mp h with h | ⟨rfl, _, h2⟩
    · by_cases cy : y = z.x
      · refine ⟨z.v, by simp [cy], ?_⟩
        obtain ⟨q, e', a1, a2, a3, a4, a5⟩ := Q.pre S hA hp hu hz1 h
        exact Nat.le_of_lt (S.grow _ _ _ _ _ _ _ _ a1 hz2 a3 hk a5)
      · obtain ⟨c, a, b⟩ := R.all y x h
        exact ⟨c, by simp [cy, a], b⟩
    · exact ⟨x.v, by simp [h2], Nat.le_refl _⟩
theorem RS.next (R : RS hs A zs P i e st) {u : Nat} (hu : P[i]? = some u) (he : ∀ (e' : Nat) (x : Ev), EvN hs A zs u e' x → e' < e) : RS hs A zs P (i + 1) 0 st := by
  have key : ∀ y x, WBef hs A zs P (i + 1) 0 y x ↔ WBef hs A zs P i e y x := by
    intro y x
    constructor
    · rintro ⟨j, w, e', h1, h2, h3, h4⟩
      refine ⟨j, w, e', h1, ?_, h3, h4⟩
      by_cases c : j = i
      · subst c
        rw [hu] at h1; cases h1
        exact .inr ⟨rfl, he _ _ h3⟩
      · exact .inl (by omega)
    · rintro ⟨j, w, e', h1, h2, h3⟩
      exact ⟨j, w, e', h1, by omega, h3⟩
  exact ⟨fun y c h => by obtain ⟨x, a, b⟩ := R.som y c h; exact ⟨x, (key y x).mpr a, b⟩, fun y x h => R.all y x ((key y x).mp h)⟩
/-- Each read finds what it returned. -/
theorem RS.initial (R : RS hs A zs P i e st) (Q : PO hs A zs T ss P) (S : Ser hs T) (hA : A = rksAll 0 hs) (hp : zs.Perm (List.range A.length)) {u : Nat} (hu : P[i]? = some u) {z : Ev} (hz : EvN hs A zs u e z) (hk : z.k = 0) (hi : z.i = true) : st z.x = none := by
  obtain ⟨p, hz1, hz2⟩ := id hz
  cases h : st z.x with
  | none => rfl
  | some c =>
    exfalso
    obtain ⟨x, a, b⟩ := R.som _ _ h
    obtain ⟨q, e', a1, a2, a3, a4, a5⟩ := Q.pre S hA hp hu hz1 a
    exact S.ri _ _ _ _ hz2 (ats_cm hA hp hz1) hk hi _ _ _ _ a1 a2 a3 a4 a5
theorem RS.finds (R : RS hs A zs P i e st) (N : NP hs F A zs NM vars vers os ss fa ows G J) (Q : PO hs A zs T ss P) (S : Ser hs T) (W : WF hs F) {u : Nat} (hu : P[i]? = some u) {z : Ev} (hz : EvN hs A zs u e z) (hk : z.k = 0) (hi : z.i = false) : st z.x = some z.v := by
  obtain ⟨p, hz1, hz2⟩ := id hz
  obtain ⟨_, ⟨s', k', e', x, d1, d2, d3, d4, d5, d6⟩, m⟩ := S.rd _ _ _ _ hz2 hk hi
  have hw : WBef hs A zs P i e z.x x := by
    rcases d6 with d6 | ⟨f1, f2, f3⟩
    · -- another's
      obtain ⟨om, sm, c, Ge, G0, E, _⟩ := N.ei
      obtain ⟨q, q1, q2, q3, q4⟩ := W.bwd _ _ _ _ d1 d2
      have hno : ¬ OwnV F A zs u z.v := by
        rintro ⟨q', g1, g2⟩
        rw [← d3, q1] at g1; cases g1
        rw [hz1] at g2
        injection g2 with g2
        have e1 : p.1 = s' := by rw [g2]; exact q2
        have e2 : p.2 = k' := by rw [g2]; exact q3
        rw [e1, e2] at d6; omega
      obtain ⟨k, hk'⟩ := E.all u e z (done_all N.hp hz) hz hk hi hno
      have hv := (E.smI _ _).mp hk'
      obtain ⟨s, hs'⟩ := has_at ss (k := k) (by rw [← E.lenS]; exact (List.getElem?_eq_some_iff.mp hv).1)
      obtain ⟨⟨q', x', a1, a2, a3, a4, a5, a6, a7⟩, b1, b2⟩ := E.srI k s z.v hs' hv
      have hu' : u ∈ s.rd := (b1 u).mpr ⟨⟨e, z, done_all N.hp hz, hz, hk, hi, rfl⟩, hno⟩
      have := Q.rd k s hs' u hu'
      rw [befo_at Q.nd] at this
      obtain ⟨i1, j1, r1, r2, r3⟩ := this
      have := nodup_at Q.nd r3 hu
      subst this
      obtain ⟨g1, g2, g3⟩ := S.uniq d1 a3 d2 a4 (by omega)
      refine ⟨i1, s.wr, e', r2, .inl r1, ⟨(s', k'), ?_, d1⟩, d2, d4⟩
      rw [g1, g2]; exact (N.nmi.fwd _ _ a2).2
    · subst f1 f2
      exact ⟨i, u, e', hu, .inr ⟨rfl, f3⟩, ⟨p, hz1, d1⟩, d2, d4⟩
  obtain ⟨c, h1, h2⟩ := R.all _ _ hw
  obtain ⟨x2, g1, g2⟩ := R.som _ _ h1
  obtain ⟨q, e2, a1, a2, a3, a4, a5⟩ := Q.pre S N.hA N.hp hu hz1 g1
  have := m _ _ _ _ a1 a2 a3 a4 a5
  rw [h1]
  congr 1
  omega
end
end Go.Proofs.YbulkctquGreatFmt

/-
  Plainly: histories recorded from a serial run; what they keep to.
-/
import Derived.Test.YbulkctquGreatFmtNspI
import Derived.Test.YbulkctquGreatFmtPlA
namespace Go.Proofs.YbulkctquGreatFmt
open Go.ChangeShapes Go.WideShapes Go.ChangeAt Go.RowKit Go.Ord
set_option linter.unusedVariables false

/-- That event stands ahead of event e of (s, k). -/
def Pre (T : Nat → Nat → Nat) (s' k' e' s k e : Nat) : Prop := T s' k' < T s k ∨ (s' = s ∧ k' = k ∧ e' < e)
structure Ser (hs : List (List Tx)) (T : Nat → Nat → Nat) : Prop where
  mono : ∀ s l k k', hs[s]? = some l → k' < l.length → k < k' → T s k < T s k'
  inj : ∀ s l k s' l' k', hs[s]? = some l → k < l.length → hs[s']? = some l' → k' < l'.length → T s k = T s' k' → s = s' ∧ k = k'
  kind : ∀ s k e x, At hs s k e x → x.k = 0 ∨ x.k = 1
  wi : ∀ s k e x, At hs s k e x → x.k = 1 → x.i = false
  grow : ∀ s k e x s' k' e' x', At hs s k e x → At hs s' k' e' x' → x.k = 1 → x'.k = 1 → Pre T s k e s' k' e' → x.v < x'.v
  rd : ∀ s k e v, At hs s k e v → v.k = 0 → v.i = false → Cm hs s k ∧ (∃ s' k' e' x, At hs s' k' e' x ∧ x.k = 1 ∧ x.v = v.v ∧ x.x = v.x ∧ Cm hs s' k' ∧ Pre T s' k' e' s k e) ∧
    ∀ s' k' e' x, At hs s' k' e' x → Cm hs s' k' → x.k = 1 → x.x = v.x → Pre T s' k' e' s k e → x.v ≤ v.v
  ri : ∀ s k e v, At hs s k e v → Cm hs s k → v.k = 0 → v.i = true → ∀ s' k' e' x, At hs s' k' e' x → Cm hs s' k' → x.k = 1 → x.x = v.x → ¬ Pre T s' k' e' s k e
  iv : ∀ s k e x, At hs s k e x → x.i = true → x.v = 0
  vb : ∀ s k e x, At hs s k e x → x.v < 900 ∧ x.x < 900
  small : hs.length < 90
  small2 : ∀ l ∈ hs, l.length < 90
  small3 : ∀ l ∈ hs, ∀ t ∈ l, t.evs.length < 1000
section
variable {hs : List (List Tx)} {T : Nat → Nat → Nat}
theorem At.vd {s k e : Nat} {x : Ev} (h : At hs s k e x) : ∃ l, hs[s]? = some l ∧ k < l.length := by
  obtain ⟨l, t, h1, h2, _⟩ := h
  exact ⟨l, h1, (List.getElem?_eq_some_iff.mp h2).1⟩
theorem Ser.tri (S : Ser hs T) {s k e s' k' e' : Nat} {x x' : Ev} (h : At hs s k e x) (h' : At hs s' k' e' x') : Pre T s k e s' k' e' ∨ Pre T s' k' e' s k e ∨ (s = s' ∧ k = k' ∧ e = e') := by
  obtain ⟨l, a1, a2⟩ := h.vd
  obtain ⟨l', b1, b2⟩ := h'.vd
  unfold Pre
  by_cases c : T s k = T s' k'
  · obtain ⟨rfl, rfl⟩ := S.inj _ _ _ _ _ _ a1 a2 b1 b2 c
    omega
  · omega
theorem Ser.uniq (S : Ser hs T) {s k e s' k' e' : Nat} {x x' : Ev} (h : At hs s k e x) (h' : At hs s' k' e' x') (hk : x.k = 1) (hk' : x'.k = 1) (hv : x.v = x'.v) : s = s' ∧ k = k' ∧ e = e' := by
  rcases S.tri h h' with q | q | q
  · have := S.grow _ _ _ _ _ _ _ _ h h' hk hk' q; omega
  · have := S.grow _ _ _ _ _ _ _ _ h' h hk' hk q; omega
  · exact q
theorem Ser.hok (S : Ser hs T) : HOk hs := by
  refine ⟨S.kind, S.wi, fun s k e v s' k' e' v' h h' hk hk' hv => S.uniq h h' hk hk' hv, fun s k e v h hk hi => ?_, S.small, S.small2, S.small3⟩
  obtain ⟨_, ⟨s', k', e', x, a, b, c, d, _⟩, _⟩ := S.rd s k e v h hk hi
  exact ⟨s', k', e', x, a, b, c, d⟩
theorem Ser.rok (S : Ser hs T) : ROk hs := by
  refine ⟨?_, ?_, ?_, ?_, ?_⟩
  · intro s k e v h hc hk hi s' k' e' x h' hk' hv
    obtain ⟨_, ⟨s2, k2, e2, x2, a, b, c, d, f, g⟩, _⟩ := S.rd s k e v h hk hi
    obtain ⟨rfl, rfl, rfl⟩ := S.uniq h' a hk' b (by omega)
    exact f
  · intro s k e v h hc hk hi e' x h' hk' hv
    obtain ⟨_, ⟨s2, k2, e2, x2, a, b, c, d, f, g⟩, m⟩ := S.rd s k e v h hk hi
    obtain ⟨rfl, rfl, rfl⟩ := S.uniq h' a hk' b (by omega)
    have hee : e' < e := by unfold Pre at g; omega
    refine ⟨hee, fun e'' x' q1 q2 q3 q4 q5 => ?_⟩
    have := m _ _ _ _ q3 hc q4 q5 (.inr ⟨rfl, rfl, q2⟩)
    have := S.grow _ _ _ _ _ _ _ _ h' q3 hk' q4 (.inr ⟨rfl, rfl, q1⟩)
    omega
  · intro s k e v h hc hk hi s' k' e' x h' hk' hv hne
    obtain ⟨_, ⟨s2, k2, e2, x2, a, b, c, d, f, g⟩, m⟩ := S.rd s k e v h hk hi
    obtain ⟨rfl, rfl, rfl⟩ := S.uniq h' a hk' b (by omega)
    have ex := h'.same a
    subst ex
    have g1 : T s' k' < T s k := by
      rcases g with g | g
      · exact g
      · exact absurd ⟨g.1, g.2.1⟩ hne
    refine ⟨fun e'' x' q1 q3 q4 q5 => ?_, fun e'' x' q1 q3 q4 q5 => ?_⟩
    · have := m _ _ _ _ q3 hc q4 q5 (.inr ⟨rfl, rfl, q1⟩)
      have := S.grow _ _ _ _ _ _ _ _ h' q3 hk' q4 (.inl g1)
      omega
    · have := m _ _ _ _ q3 f q4 (q5.trans d) (.inl g1)
      have := S.grow _ _ _ _ _ _ _ _ h' q3 hk' q4 (.inr ⟨rfl, rfl, q1⟩)
      omega
  · intro s k e v h hc hk hi e'' x' q1 q3 q4 q5
    exact S.ri _ _ _ _ h hc hk hi _ _ _ _ q3 hc q4 q5 (.inr ⟨rfl, rfl, q1⟩)
  · intro s k e v h hc hk hn e' v' hlt h' hk' hx
    have down : ∀ {s' k' e1 : Nat} {x : Ev}, At hs s' k' e1 x → x.k = 1 → x.x = v.x → Pre T s' k' e1 s k e → Pre T s' k' e1 s k e' := by
      intro s' k' e1 x q1 q2 q3 q4
      rcases q4 with q4 | ⟨rfl, rfl, q4⟩
      · exact .inl q4
      · exact absurd q3 (hn _ _ q4 q1 q2)
    have up : ∀ {s' k' e1 : Nat}, Pre T s' k' e1 s k e' → Pre T s' k' e1 s k e := by
      intro s' k' e1 q
      unfold Pre at q ⊢; omega
    cases hi : v.i with
    | true =>
      cases hi' : v'.i with
      | true =>
        have a := S.iv _ _ _ _ h hi
        have b := S.iv _ _ _ _ h' hi'
        exact ⟨rfl, by omega⟩
      | false =>
        exfalso
        obtain ⟨_, ⟨s2, k2, e2, x2, a, b, c, d, f, g⟩, m⟩ := S.rd _ _ _ _ h' hk' hi'
        exact S.ri _ _ _ _ h hc hk hi _ _ _ _ a f b (d.trans hx) (up g)
    | false =>
      obtain ⟨_, ⟨s2, k2, e2, x2, a, b, c, d, f, g⟩, m⟩ := S.rd _ _ _ _ h hk hi
      have g' := down a b d g
      cases hi' : v'.i with
      | true => exact absurd g' (S.ri _ _ _ _ h' hc hk' hi' _ _ _ _ a f b (d.trans hx.symm))
      | false =>
        refine ⟨rfl, ?_⟩
        obtain ⟨_, ⟨s3, k3, e3, x3, a', b', c', d', f', g3⟩, m'⟩ := S.rd _ _ _ _ h' hk' hi'
        have h1 := m' _ _ _ _ a f b (d.trans hx.symm) g'
        have h2 := m _ _ _ _ a' f' b' (d'.trans hx) (up g3)
        omega
end
theorem fold_rk : ∀ (l : List Ev) (r : Rk), (r.t = true → (l.foldl rkStep r).t = true ∧ r.g ≤ (l.foldl rkStep r).g) ∧ (∀ x ∈ l, x.i = false → (l.foldl rkStep r).t = true ∧ x.v ≤ (l.foldl rkStep r).g) ∧
    ((l.foldl rkStep r).t = true → (r.t = true ∧ (l.foldl rkStep r).g = r.g) ∨ ∃ x ∈ l, x.i = false ∧ x.v = (l.foldl rkStep r).g) := by
  intro l
  induction l with
  | nil => intro r; exact ⟨fun h => ⟨h, Nat.le_refl _⟩, fun x h => by simp at h, fun h => .inl ⟨h, rfl⟩⟩
  | cons y l ih =>
    intro r
    obtain ⟨i1, i2, i3⟩ := ih (rkStep r y)
    simp only [List.foldl_cons]
    have st : (r.t = true → (rkStep r y).t = true ∧ r.g ≤ (rkStep r y).g) ∧ (y.i = false → (rkStep r y).t = true ∧ y.v ≤ (rkStep r y).g) ∧ ((rkStep r y).t = true → (r.t = true ∧ (rkStep r y).g = r.g) ∨ (y.i = false ∧ y.v = (rkStep r y).g)) := by
      by_cases c : y.i = false ∧ (r.t = false ∨ r.g < y.v)
      · rw [rkStep_yes c.1 c.2]
        refine ⟨fun h => ⟨rfl, ?_⟩, fun _ => ⟨rfl, Nat.le_refl _⟩, fun _ => .inr ⟨c.1, rfl⟩⟩
        rcases c.2 with q | q
        · rw [h] at q; cases q
        · exact Nat.le_of_lt q
      · rw [show rkStep r y = r by simp only [rkStep]; rw [if_neg c]]
        refine ⟨fun h => ⟨h, Nat.le_refl _⟩, fun h => ?_, fun h => .inl ⟨h, rfl⟩⟩
        have h1 : ¬ (r.t = false ∨ r.g < y.v) := fun q => c ⟨h, q⟩
        cases ht : r.t with
        | false => exact absurd (.inl ht) h1
        | true => exact ⟨rfl, by have : ¬ r.g < y.v := fun q => h1 (.inr q); omega⟩
    refine ⟨fun h => ?_, fun x hx hi => ?_, fun h => ?_⟩
    · obtain ⟨a, b⟩ := st.1 h
      obtain ⟨a', b'⟩ := i1 a
      exact ⟨a', by omega⟩
    · rcases List.mem_cons.mp hx with rfl | hx
      · obtain ⟨a, b⟩ := st.2.1 hi
        obtain ⟨a', b'⟩ := i1 a
        exact ⟨a', by omega⟩
      · exact i2 x hx hi
    · rcases i3 h with ⟨a, b⟩ | ⟨x, a, b, c⟩
      · rcases st.2.2 a with ⟨c, d⟩ | ⟨c, d⟩
        · exact .inl ⟨c, by omega⟩
        · exact .inr ⟨y, by simp, c, by omega⟩
      · exact .inr ⟨x, by simp [a], b, c⟩
section
variable {hs : List (List Tx)} {T : Nat → Nat → Nat} {A : List Rk} {zs : List Nat}
/-- A node's transaction. -/
theorem node_at (hA : A = rksAll 0 hs) (hp : zs.Perm (List.range A.length)) {u : Nat} {p : Nat × Nat} (h : (ats A zs)[u]? = some p) :
    ∃ (a : Nat) (r : Rk) (l : List Tx) (t : Tx), zs[u]? = some a ∧ A[a]? = some r ∧ p = (r.s, r.k) ∧ hs[p.1]? = some l ∧ l[p.2]? = some t ∧ t.com = true ∧ r = rkOf p.1 p.2 t := by
  unfold ats at h
  rw [List.getElem?_map] at h
  cases hz : zs[u]? with
  | none => rw [hz] at h; simp at h
  | some a =>
    rw [hz] at h
    simp at h
    have ha : a < A.length := by have := hp.mem_iff.mp (List.mem_of_getElem? hz); simpa using this
    obtain ⟨r, hr⟩ := has_at A ha
    have hp' : p = (r.s, r.k) := by rw [← h]; simp [atOf, hr]
    have hm : r ∈ rksAll 0 hs := by rw [← hA]; exact List.mem_of_getElem? hr
    obtain ⟨_, l, t, q1, q2, q3, q4⟩ := rksAll_mem hs 0 r hm
    refine ⟨a, r, l, t, rfl, hr, hp', ?_, ?_, q3, ?_⟩
    · rw [hp']; simpa using q1
    · rw [hp']; exact q2
    · rw [hp']; exact q4
/-- A writer's number is above those of all earlier time. -/
theorem Ser.above (S : Ser hs T) (hA : A = rksAll 0 hs) (hp : zs.Perm (List.range A.length)) (hz : Sorted A zs) {u v : Nat} {p q : Nat × Nat} (hu : (ats A zs)[u]? = some p) (hv : (ats A zs)[v]? = some q) (ht : T p.1 p.2 < T q.1 q.2) {e : Nat} {y : Ev} (hy : At hs q.1 q.2 e y) (hk : y.k = 1) : u < v := by
  obtain ⟨a, ra, la, ta, a1, a2, a3, a4, a5, a6, a7⟩ := node_at hA hp hu
  obtain ⟨b, rb, lb, tb, b1, b2, b3, b4, b5, b6, b7⟩ := node_at hA hp hv
  by_cases c : u < v
  · exact c
  exfalso
  have hne : u ≠ v := by
    rintro rfl
    rw [hu] at hv; cases hv
    omega
  refine hz v u b a rb ra (by omega) b1 a1 b2 a2 ?_
  obtain ⟨l', t', c1, c2, c3⟩ := id hy
  rw [b4] at c1; cases c1
  rw [b5] at c2; cases c2
  have hyi := S.wi _ _ _ _ hy hk
  obtain ⟨d1, d2⟩ := (fold_rk tb.evs ⟨q.1, q.2, 0, false, false⟩).2.1 y (List.mem_of_getElem? c3) hyi
  have e1 : rb.t = true := by rw [b7]; exact d1
  have e2 : y.v ≤ rb.g := by rw [b7]; exact d2
  unfold Rk.lt
  cases hta : ra.t with
  | false => left; rw [e1]; decide
  | true =>
    right
    rw [e1]
    refine ⟨rfl, .inl ?_⟩
    have h3 := (fold_rk ta.evs ⟨p.1, p.2, 0, false, false⟩).2.2 (by rw [a7] at hta; exact hta)
    rcases h3 with ⟨h3, _⟩ | ⟨x, h3, h4, h5⟩
    · cases h3
    have e3 : x.v = ra.g := by rw [a7]; exact h5
    obtain ⟨i, hi⟩ := List.getElem?_of_mem h3
    have hx : At hs p.1 p.2 i x := ⟨la, ta, a4, a5, hi⟩
    have : x.v < y.v := by
      rcases S.kind _ _ _ _ hx with k0 | k1
      · obtain ⟨_, ⟨s2, k2, e2', x2, f1, f2, f3, f4, f5, f6⟩, _⟩ := S.rd _ _ _ _ hx k0 h4
        have := S.grow _ _ _ _ _ _ _ _ f1 hy f2 hk (.inl (by
          rcases f6 with f6 | ⟨rfl, rfl, _⟩
          · omega
          · exact ht))
        omega
      · exact S.grow _ _ _ _ _ _ _ _ hx hy k1 hk (.inl ht)
    omega
end
/-- What is placed before what. -/
def Befo (P : List Nat) (x y : Nat) : Prop := ∃ P1 P2, P = P1 ++ y :: P2 ∧ x ∈ P1
section
variable {n : Nat} {T : Nat → Nat} {G : List (List Nat)} {J : List Bool} {D : List Nat}
theorem befo_filter {D1 D2 : List Nat} {f : Nat → Bool} {x y : Nat} (h : D = D1 ++ y :: D2) (hx : x ∈ D1) (fx : f x = true) (fy : f y = true) : Befo (D.filter f) x y :=
  ⟨D1.filter f, D2.filter f, by rw [h, List.filter_append, List.filter_cons_of_pos fy], List.mem_filter.mpr ⟨hx, fx⟩⟩
theorem Fwd.allPlaced (F : Fwd n T G J) (hd : ∀ x, x < G.length → x ∉ D → cnt G D x ≠ 0) : ∀ x, x < G.length → x ∈ D := by
  obtain ⟨τ, t1, t2⟩ := F.tau
  have key : ∀ m x, x < G.length → τ x ≤ m → x ∈ D := by
    intro m
    induction m with
    | zero =>
      intro x hx hm
      by_cases c : x ∈ D
      · exact c
      · exfalso
        refine hd x hx c ((cnt_zero G D x).mpr (fun u hu hn ho => ?_))
        have := (t2 u x (outs_arc ho)).2
        omega
    | succ m ih =>
      intro x hx hm
      by_cases c : x ∈ D
      · exact c
      · exfalso
        refine hd x hx c ((cnt_zero G D x).mpr (fun u hu hn ho => ?_))
        have := (t2 u x (outs_arc ho)).2
        exact hn (ih u hu (by omega))
  exact fun x hx => key _ x hx (Nat.le_refl _)
theorem Fwd.someFree (F : Fwd n T G J) : ∃ τ : Nat → Nat, (∀ u, u < n → τ u = 2 * T u) ∧ ∀ (D1 : List Nat) (x : Nat), x < G.length → x ∉ D1 → ∃ y, y < G.length ∧ y ∉ D1 ∧ Free G D1 y ∧ τ y ≤ τ x := by
  obtain ⟨τ, t1, t2⟩ := F.tau
  refine ⟨τ, t1, fun D1 => ?_⟩
  have key : ∀ m x, x < G.length → x ∉ D1 → τ x ≤ m → ∃ y, y < G.length ∧ y ∉ D1 ∧ Free G D1 y ∧ τ y ≤ τ x := by
    intro m
    induction m with
    | zero =>
      intro x hx hn hm
      refine ⟨x, hx, hn, fun u hu ho => ?_, Nat.le_refl _⟩
      have := (t2 u x (outs_arc ho)).2
      omega
    | succ m ih =>
      intro x hx hn hm
      by_cases c : Free G D1 x
      · exact ⟨x, hx, hn, c, Nat.le_refl _⟩
      · unfold Free at c
        have : ∃ u, u < G.length ∧ x ∈ outs G u ∧ u ∉ D1 := by
          apply Classical.byContradiction
          intro q
          exact c (fun u h1 h2 => Classical.byContradiction (fun h3 => q ⟨u, h1, h2, h3⟩))
        obtain ⟨u, h1, h2, h3⟩ := this
        have h4 := (t2 u x (outs_arc h2)).2
        obtain ⟨y, a, b, c, d⟩ := ih u h1 h3 (by omega)
        exact ⟨y, a, b, c, by omega⟩
  exact fun x hx hn => key _ x hx hn (Nat.le_refl _)
/-- A node above all of earlier time is placed behind them. -/
theorem Fwd.behind (F : Fwd n T G J) (tr : Trace G J D) (hd : ∀ x, x < G.length → x ∉ D → cnt G D x ≠ 0) {x w : Nat} (hx : x < n) (hw : w < n) (ht : T x < T w) (ab : ∀ y, y < n → T y < T w → y < w) : Befo (D.filter (fun v => !juncAt J v)) x w := by
  have hl := F.len
  obtain ⟨D1, D2, e⟩ := List.append_of_mem (F.allPlaced hd w (by omega))
  obtain ⟨q1, q2, q3, q4⟩ := tr D1 w D2 e
  by_cases c : x ∈ D1
  · exact befo_filter e c (by simp [F.low x hx]) (by simp [F.low w hw])
  exfalso
  obtain ⟨τ, t1, t2⟩ := F.someFree
  obtain ⟨y, a1, a2, a3, a4⟩ := t2 D1 x (by omega) c
  obtain ⟨b1, b2⟩ := q4 (F.low w hw) y a1 a2 a3
  have hy : y < n := by
    by_cases c : y < n
    · exact c
    · have := F.high y (by omega) a1; rw [b1] at this; cases this
  rw [t1 y hy, t1 x hx] at a4
  have := ab y hy (by omega)
  omega
theorem Fwd.along (F : Fwd n T G J) (tr : Trace G J D) (hd : ∀ x, x < G.length → x ∉ D → cnt G D x ≠ 0) {x y : Nat} (hx : x < n) (hy : y < n) (ha : Arc G x y) : Befo (D.filter (fun v => !juncAt J v)) x y := by
  have hl := F.len
  obtain ⟨D1, D2, e⟩ := List.append_of_mem (F.allPlaced hd y (by omega))
  obtain ⟨q1, q2, q3, q4⟩ := tr D1 y D2 e
  exact befo_filter e (q3 x ha.lt ha.outs) (by simp [F.low x hx]) (by simp [F.low y hy])
theorem Fwd.placed (F : Fwd n T G J) (tr : Trace G J D) (hd : ∀ x, x < G.length → x ∉ D → cnt G D x ≠ 0) : (D.filter (fun v => !juncAt J v)).Nodup ∧ ∀ x, x ∈ D.filter (fun v => !juncAt J v) ↔ x < n := by
  have hl := F.len
  refine ⟨tr.nodup.filter _, fun x => ?_⟩
  rw [List.mem_filter]
  constructor
  · rintro ⟨h1, h2⟩
    by_cases c : x < n
    · exact c
    · have := F.high x (by omega) (tr.lt x h1)
      rw [this] at h2; simp at h2
  · intro h
    exact ⟨F.allPlaced hd x (by omega), by simp [F.low x h]⟩
end
end Go.Proofs.YbulkctquGreatFmt

/-
  Plainly: the arcs that precedeInitial and precedeOverwriters lay go forward in time.
-/
import Derived.Test.YbulkctquGreatFmtOverP
import Derived.Test.YbulkctquGreatFmtOrdP
import Derived.Test.YbulkctquGreatFmtInit2
namespace Go.Proofs.YbulkctquGreatFmt
set_option linter.unusedVariables false

def Arc (G : List (List Nat)) (u x : Nat) : Prop := ∃ r, G[u]? = some r ∧ x ∈ r
theorem Arc.lt {G : List (List Nat)} {u x : Nat} (h : Arc G u x) : u < G.length := by
  obtain ⟨r, h1, _⟩ := h
  exact (List.getElem?_eq_some_iff.mp h1).1
theorem Arc.outs {G : List (List Nat)} {u x : Nat} (h : Arc G u x) : x ∈ outs G u := by
  obtain ⟨r, h1, h2⟩ := h
  simp [Go.Proofs.YbulkctquGreatFmt.outs, h1, h2]
theorem outs_arc {G : List (List Nat)} {u x : Nat} (h : x ∈ outs G u) : Arc G u x := by
  unfold outs at h
  cases hq : G[u]? with
  | none => simp [hq] at h
  | some r => simp [hq] at h; exact ⟨r, hq, h⟩
theorem arc_sub {G : List (List Nat)} {t v u x : Nat} (h : Arc (arc G t v) u x) : Arc G u x ∨ (u = t ∧ x = v) := by
  obtain ⟨r, h1, h2⟩ := h
  unfold arc at h1
  by_cases e : t = u
  · subst e
    have hl : t < G.length := by have := (List.getElem?_eq_some_iff.mp h1).1; simpa using this
    rw [List.getElem?_set_self hl] at h1
    injection h1 with h1
    subst h1
    rcases List.mem_append.mp h2 with h2 | h2
    · refine .inl ⟨G[t], by simp [hl], ?_⟩
      simpa [hl] using h2
    · exact .inr ⟨rfl, by simpa using h2⟩
  · rw [List.getElem?_set_ne e] at h1
    exact .inl ⟨r, h1, h2⟩
theorem arc_sup {G : List (List Nat)} {t v u x : Nat} (h : Arc G u x) : Arc (arc G t v) u x := by
  obtain ⟨r, h1, h2⟩ := h
  unfold arc
  by_cases e : t = u
  · subst e
    have hl := (List.getElem?_eq_some_iff.mp h1).1
    exact ⟨G.getD t [] ++ [v], by rw [List.getElem?_set_self hl], by simp [h1, h2]⟩
  · exact ⟨r, by rw [List.getElem?_set_ne e]; exact h1, h2⟩
theorem arc_new {G : List (List Nat)} {t v : Nat} (h : t < G.length) : Arc (arc G t v) t v :=
  ⟨G.getD t [] ++ [v], by unfold arc; rw [List.getElem?_set_self h], by simp⟩
theorem arcsFrom_sub {t u x : Nat} : ∀ (us : List Nat) (G : List (List Nat)), Arc (arcsFrom G t us) u x → Arc G u x ∨ (u = t ∧ x ∈ us) := by
  intro us
  induction us with
  | nil => intro G h; exact .inl h
  | cons a us ih =>
    intro G h
    rcases ih (arc G t a) h with h | ⟨h1, h2⟩
    · rcases arc_sub h with h | ⟨h1, h2⟩
      · exact .inl h
      · exact .inr ⟨h1, by simp [h2]⟩
    · exact .inr ⟨h1, by simp [h2]⟩
theorem arcsTo_sub {v u x : Nat} : ∀ (ts : List Nat) (G : List (List Nat)), Arc (arcsTo G ts v) u x → Arc G u x ∨ (u ∈ ts ∧ x = v) := by
  intro ts
  induction ts with
  | nil => intro G h; exact .inl h
  | cons a ts ih =>
    intro G h
    rcases ih (arc G a v) h with h | ⟨h1, h2⟩
    · rcases arc_sub h with h | ⟨h1, h2⟩
      · exact .inl h
      · exact .inr ⟨by simp [h1], h2⟩
    · exact .inr ⟨by simp [h1], h2⟩
theorem arcsAll_sub {us : List Nat} {u x : Nat} : ∀ (ts : List Nat) (G : List (List Nat)), Arc (arcsAll G ts us) u x → Arc G u x ∨ (u ∈ ts ∧ x ∈ us) := by
  intro ts
  induction ts with
  | nil => intro G h; exact .inl h
  | cons a ts ih =>
    intro G h
    rcases ih (arcsFrom G a us) h with h | ⟨h1, h2⟩
    · rcases arcsFrom_sub us G h with h | ⟨h1, h2⟩
      · exact .inl h
      · exact .inr ⟨by simp [h1], h2⟩
    · exact .inr ⟨by simp [h1], h2⟩
theorem arcsFrom_sup {t u x : Nat} : ∀ (us : List Nat) (G : List (List Nat)), Arc G u x → Arc (arcsFrom G t us) u x := by
  intro us
  induction us with
  | nil => intro G h; exact h
  | cons a us ih => intro G h; exact ih _ (arc_sup h)
theorem arcsTo_sup {v u x : Nat} : ∀ (ts : List Nat) (G : List (List Nat)), Arc G u x → Arc (arcsTo G ts v) u x := by
  intro ts
  induction ts with
  | nil => intro G h; exact h
  | cons a ts ih => intro G h; exact ih _ (arc_sup h)
theorem arcsAll_sup {us : List Nat} {u x : Nat} : ∀ (ts : List Nat) (G : List (List Nat)), Arc G u x → Arc (arcsAll G ts us) u x := by
  intro ts
  induction ts with
  | nil => intro G h; exact h
  | cons a ts ih => intro G h; exact ih _ (arcsFrom_sup us _ h)
theorem snoc_arc {G : List (List Nat)} {u x : Nat} : Arc (G ++ [[]]) u x ↔ Arc G u x := by
  constructor
  · rintro ⟨r, h1, h2⟩
    by_cases e : u < G.length
    · rw [List.getElem?_append_left e] at h1; exact ⟨r, h1, h2⟩
    · rw [List.getElem?_append_right (by omega)] at h1
      have := List.mem_of_getElem? h1
      simp at this; subst this; simp at h2
  · rintro ⟨r, h1, h2⟩
    exact ⟨r, by rw [List.getElem?_append_left (List.getElem?_eq_some_iff.mp h1).1]; exact h1, h2⟩
theorem joinG_sup {G : List (List Nat)} {ts us : List Nat} {u x : Nat} (h : Arc G u x) : Arc (joinG G ts us) u x := by
  unfold joinG
  split
  · exact arcsFrom_sup _ _ (arcsTo_sup _ _ (snoc_arc.mpr h))
  · exact arcsAll_sup _ _ h
theorem pairs_sup {b u x : Nat} : ∀ (ts : List Nat) (G : List (List Nat)), Arc G u x → Arc (pairs G b ts) u x := by
  intro ts
  induction ts with
  | nil => intro G h; exact h
  | cons a ts ih => intro G h; exact ih _ (arc_sup (arc_sup h))
theorem othersG_sup {G : List (List Nat)} {ts us : List Nat} {u x : Nat} (h : Arc G u x) : Arc (othersG G ts us) u x := pairs_sup _ _ (joinG_sup (joinG_sup h))
theorem initG_sup {u x : Nat} : ∀ (os : List Ob) (G : List (List Nat)), Arc G u x → Arc (initG G os) u x := by
  intro os
  induction os with
  | nil => intro G h; exact h
  | cons a ts ih => intro G h; exact ih _ (othersG_sup h)
theorem overG_sup {u x : Nat} : ∀ (ss : List Sr) (rs : List (List Nat)) (G : List (List Nat)), Arc G u x → Arc (overG G ss rs) u x := by
  intro ss
  induction ss with
  | nil => intro rs G h; rw [overG_nil]; exact h
  | cons s ss ih =>
    intro rs G h
    cases rs with
    | nil => exact h
    | cons r rs =>
      simp only [overG]
      split
      · exact ih _ _ h
      · exact ih _ _ (othersG_sup h)

/-- Nodes below n stand for transactions at the times T; every arc goes forward. -/
structure Fwd (n : Nat) (T : Nat → Nat) (G : List (List Nat)) (J : List Bool) : Prop where
  len : n ≤ G.length
  lenJ : J.length = G.length
  low : ∀ v, v < n → juncAt J v = false
  high : ∀ v, n ≤ v → v < G.length → juncAt J v = true
  tau : ∃ τ : Nat → Nat, (∀ u, u < n → τ u = 2 * T u) ∧ ∀ u x, Arc G u x → x < G.length ∧ τ u < τ x
theorem juncAt_snoc {J : List Bool} {b : Bool} {v : Nat} (h : v < J.length) : juncAt (J ++ [b]) v = juncAt J v := by
  unfold juncAt; rw [List.getD_eq_getElem?_getD, List.getD_eq_getElem?_getD, List.getElem?_append_left h]
theorem juncAt_last {J : List Bool} {b : Bool} : juncAt (J ++ [b]) J.length = b := by simp [juncAt]
theorem maxT (T : Nat → Nat) : ∀ ts : List Nat, ts ≠ [] → ∃ M, (∀ t ∈ ts, T t ≤ M) ∧ ∃ t ∈ ts, T t = M := by
  intro ts
  induction ts with
  | nil => intro h; exact absurd rfl h
  | cons a ts ih =>
    intro _
    by_cases e : ts = []
    · subst e; exact ⟨T a, by simp, a, by simp, rfl⟩
    · obtain ⟨M, h1, t, h2, h3⟩ := ih e
      by_cases c : T a ≤ M
      · exact ⟨M, fun x hx => by rcases List.mem_cons.mp hx with rfl | hx; exact c; exact h1 x hx, t, by simp [h2], h3⟩
      · exact ⟨T a, fun x hx => by rcases List.mem_cons.mp hx with rfl | hx; exact Nat.le_refl _; have := h1 x hx; omega, a, by simp, rfl⟩
theorem Fwd.arc {n : Nat} {T : Nat → Nat} {G : List (List Nat)} {J : List Bool} (h : Fwd n T G J) {t u : Nat} (ht : t < n) (hu : u < n) (hT : T t < T u) : Fwd n T (arc G t u) J := by
  obtain ⟨τ, h1, h2⟩ := h.tau
  have hl := h.len
  refine ⟨by rw [arc_len]; exact h.len, by rw [arc_len]; exact h.lenJ, h.low, by rw [arc_len]; exact h.high, τ, h1, fun a x hx => ?_⟩
  rw [arc_len]
  rcases arc_sub hx with hx | ⟨rfl, rfl⟩
  · exact h2 a x hx
  · rw [h1 _ ht, h1 _ hu]; omega
theorem Fwd.join {n : Nat} {T : Nat → Nat} {G : List (List Nat)} {J : List Bool} (h : Fwd n T G J) {ts us : List Nat} (ht : ∀ t ∈ ts, t < n) (hu : ∀ u ∈ us, u < n) (hT : ∀ t ∈ ts, ∀ u ∈ us, T t < T u) : Fwd n T (joinG G ts us) (joinJ J ts us) := by
  obtain ⟨τ, h1, h2⟩ := h.tau
  have hl := h.len
  have hj := h.lenJ
  unfold joinG joinJ
  by_cases c : 1 < ts.length ∧ 1 < us.length
  · rw [if_pos c, if_pos c]
    obtain ⟨M, m1, t0, m2, m3⟩ := maxT T ts (by intro e; rw [e] at c; simp at c)
    have el : (arcsFrom (arcsTo (G ++ [[]]) ts G.length) G.length us).length = G.length + 1 := by rw [arcsFrom_len, arcsTo_len]; simp
    refine ⟨by omega, by rw [el]; simp [hj], fun v hv => ?_, fun v hv hv2 => ?_, fun v => if v = G.length then 2 * M + 1 else τ v, fun u hu => ?_, fun a x hx => ?_⟩
    · rw [juncAt_snoc (by omega)]; exact h.low v hv
    · by_cases e : v = G.length
      · rw [e, ← hj, juncAt_last]
      · rw [juncAt_snoc (by omega)]; exact h.high v hv (by omega)
    · simp only
      rw [if_neg (by omega)]; exact h1 u hu
    · simp only
      rw [el]
      rcases arcsFrom_sub _ _ hx with hx' | ⟨rfl, hx'⟩
      · rcases arcsTo_sub _ _ hx' with hx2 | ⟨hx2, rfl⟩
        · have hx := snoc_arc.mp hx2
          have := hx.lt
          obtain ⟨q1, q2⟩ := h2 a x hx
          rw [if_neg (by omega), if_neg (by omega)]
          exact ⟨by omega, q2⟩
        · have := ht a hx2
          rw [if_neg (by omega), if_pos rfl, h1 a (ht a hx2)]
          have := m1 a hx2
          omega
      · have := hu x hx'
        rw [if_pos rfl, if_neg (by omega), h1 x (hu x hx')]
        have := hT t0 m2 x hx'
        omega
  · rw [if_neg c, if_neg c]
    refine ⟨by rw [arcsAll_len]; exact hl, by rw [arcsAll_len]; exact hj, h.low, by rw [arcsAll_len]; exact h.high, τ, h1, fun a x hx => ?_⟩
    rw [arcsAll_len]
    rcases arcsAll_sub _ _ hx with hx | ⟨q1, q2⟩
    · exact h2 a x hx
    · have := hT a q1 x q2
      have := hu x q2
      rw [h1 a (ht a q1), h1 x (hu x q2)]; omega
theorem Fwd.others {n : Nat} {T : Nat → Nat} {G : List (List Nat)} {J : List Bool} (h : Fwd n T G J) {ts us : List Nat} (ht : ∀ t ∈ ts, t < n) (hu : ∀ u ∈ us, u < n) (hn : ts.Nodup) (hT : ∀ t ∈ ts, ∀ u ∈ us, t ≠ u → T t < T u) : Fwd n T (othersG G ts us) (othersJ J ts us) := by
  have hb : (bothOf ts us).drop 1 = [] := by
    have hnb : (bothOf ts us).Nodup := hn.filter _
    have hm : ∀ x ∈ bothOf ts us, x ∈ ts ∧ x ∈ us := fun x hx => by simpa [bothOf] using hx
    match hq : bothOf ts us with
    | [] => rfl
    | [a] => rfl
    | a :: b :: r =>
      exfalso
      rw [hq] at hnb hm
      have hab : a ≠ b := by intro e; subst e; simp at hnb
      have ha := hm a (by simp)
      have hb := hm b (by simp)
      have := hT a ha.1 b hb.2 hab
      have := hT b hb.1 a ha.2 (fun e => hab e.symm)
      omega
  unfold othersG othersJ
  rw [hb]
  simp only [pairs, List.foldl_nil]
  have m1 : ∀ x ∈ onlyOf ts us, x ∈ ts ∧ x ∉ us := fun x hx => by simpa [onlyOf] using hx
  have m2 : ∀ x ∈ bothOf ts us, x ∈ ts ∧ x ∈ us := fun x hx => by simpa [bothOf] using hx
  have m3 : ∀ x ∈ onlyOf us ts, x ∈ us ∧ x ∉ ts := fun x hx => by simpa [onlyOf] using hx
  refine (h.join (fun t q => ht t (m1 t q).1) hu (fun t q u q' => hT t (m1 t q).1 u q' (fun e => (m1 t q).2 (e ▸ q')))).join (fun t q => ht t (m2 t q).1) (fun u q => hu u (m3 u q).1) (fun t q u q' => hT t (m2 t q).1 u (m3 u q').1 (fun e => (m3 u q').2 (e ▸ (m2 t q).1)))
theorem Fwd.init {n : Nat} {T : Nat → Nat} : ∀ (os : List Ob) (G : List (List Nat)) (J : List Bool), Fwd n T G J → (∀ o ∈ os, (∀ t ∈ o.ini, t < n) ∧ (∀ t ∈ o.wr, t < n) ∧ o.ini.Nodup ∧ ∀ t ∈ o.ini, ∀ u ∈ o.wr, t ≠ u → T t < T u) → Fwd n T (initG G os) (initJ J os) := by
  intro os
  induction os with
  | nil => intro G J h _; exact h
  | cons o os ih =>
    intro G J h ho
    obtain ⟨a, b, c, d⟩ := ho o (by simp)
    exact ih _ _ (h.others a b c d) (fun o' ho' => ho o' (by simp [ho']))
theorem Fwd.over {n : Nat} {T : Nat → Nat} : ∀ (ss : List Sr) (rs : List (List Nat)) (G : List (List Nat)) (J : List Bool), Fwd n T G J → (∀ (k : Nat) (s : Sr) (r : List Nat), ss[k]? = some s → rs[k]? = some r → (∀ t ∈ s.rd, t < n) ∧ (∀ t ∈ r, t < n) ∧ s.rd.Nodup ∧ ∀ t ∈ s.rd, ∀ u ∈ r, t ≠ u → T t < T u) → Fwd n T (overG G ss rs) (overJ J ss rs) := by
  intro ss
  induction ss with
  | nil => intro rs G J h _; rw [overG_nil, overJ_nil]; exact h
  | cons s ss ih =>
    intro rs G J h hk
    cases rs with
    | nil => exact h
    | cons r rs =>
      obtain ⟨a, b, c, d⟩ := hk 0 s r rfl rfl
      simp only [overG, overJ]
      refine ih rs _ _ ?_ (fun k s' r' q1 q2 => hk (k + 1) s' r' (by simpa using q1) (by simpa using q2))
      by_cases e : r = []
      · rw [if_pos e, if_pos e]; exact h
      · rw [if_neg e, if_neg e]; exact h.others a b c d
/-- Sizes. -/
theorem othersG_size12 (G : List (List Nat)) (ts us : List Nat) (h1 : ts.length ≤ 12) (h2 : us.length ≤ 13) :
    (othersG G ts us).length ≤ G.length + 2 ∧ (othersG G ts us).length + wt (othersG G ts us) ≤ G.length + wt G + 450 := by
  have la : (onlyOf ts us).length ≤ ts.length := List.length_filter_le _ _
  have lb : (bothOf ts us).length ≤ ts.length := List.length_filter_le _ _
  have lc : (onlyOf us ts).length ≤ us.length := List.length_filter_le _ _
  have a1 := joinG_len G (onlyOf ts us) us
  have a2 := joinG_wt G (onlyOf ts us) us
  have b1 := joinG_len (joinG G (onlyOf ts us) us) (bothOf ts us) (onlyOf us ts)
  have b2 := joinG_wt (joinG G (onlyOf ts us) us) (bothOf ts us) (onlyOf us ts)
  have c1 := pairs_len ((bothOf ts us).headD 0) ((bothOf ts us).drop 1) (joinG (joinG G (onlyOf ts us) us) (bothOf ts us) (onlyOf us ts))
  have c2 := pairs_wt ((bothOf ts us).headD 0) ((bothOf ts us).drop 1) (joinG (joinG G (onlyOf ts us) us) (bothOf ts us) (onlyOf us ts))
  have m1 : ((onlyOf ts us).length + 1) * (us.length + 1) ≤ 13 * 14 := Nat.mul_le_mul (by omega) (by omega)
  have m2 : ((bothOf ts us).length + 1) * ((onlyOf us ts).length + 1) ≤ 13 * 14 := Nat.mul_le_mul (by omega) (by omega)
  simp only [List.length_drop] at c2
  unfold othersG
  omega
theorem initG_size : ∀ (os : List Ob) (G : List (List Nat)), (∀ o ∈ os, o.ini.length ≤ 12 ∧ o.wr.length ≤ 12) → (initG G os).length + wt (initG G os) ≤ G.length + wt G + 450 * os.length := by
  intro os
  induction os with
  | nil => intro G _; simp [initG]
  | cons o os ih =>
    intro G ho
    have h1 := ho o (by simp)
    have h2 := othersG_size12 G o.ini o.wr h1.1 (by omega)
    have h3 := ih (othersG G o.ini o.wr) (fun o' ho' => ho o' (by simp [ho']))
    simp only [initG, List.foldl_cons, List.length_cons] at h3 ⊢
    omega
theorem overG_size : ∀ (ss : List Sr) (rs : List (List Nat)) (G : List (List Nat)), (∀ s ∈ ss, s.rd.length ≤ 12) → (∀ r ∈ rs, r.length ≤ 13) → (overG G ss rs).length + wt (overG G ss rs) ≤ G.length + wt G + 450 * ss.length := by
  intro ss
  induction ss with
  | nil => intro rs G _ _; rw [overG_nil]; simp
  | cons s ss ih =>
    intro rs G hs hr
    cases rs with
    | nil => simp only [overG]; omega
    | cons r rs =>
      simp only [overG, List.length_cons]
      have h3 := ih rs (if r = [] then G else othersG G s.rd r) (fun s' h' => hs s' (by simp [h'])) (fun r' h' => hr r' (by simp [h']))
      have h2 := othersG_size12 G s.rd r (hs s (by simp)) (hr r (by simp))
      by_cases e : r = []
      · rw [if_pos e] at h3 ⊢; omega
      · rw [if_neg e] at h3 ⊢; omega
end Go.Proofs.YbulkctquGreatFmt

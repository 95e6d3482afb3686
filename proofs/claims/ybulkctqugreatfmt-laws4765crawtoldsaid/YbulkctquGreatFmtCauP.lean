/-
  Plainly: what causes the arcs that are forced; initial reads come before every other write.
-/
import Derived.Test.YbulkctquGreatFmtPlC
import Derived.Test.YbulkctquGreatFmtSchP
namespace Go.Proofs.YbulkctquGreatFmt
open Go.ChangeShapes Go.WideShapes Go.ChangeAt Go.RowKit Go.Ord
set_option linter.unusedVariables false

/-- Nodes below n stand for transactions; an arc, or two over a junction, have a cause R. -/
structure Cau (n : Nat) (R : Nat → Nat → Prop) (G : List (List Nat)) (J : List Bool) : Prop where
  len : n ≤ G.length
  lenJ : J.length = G.length
  low : ∀ v, v < n → juncAt J v = false
  high : ∀ v, n ≤ v → v < G.length → juncAt J v = true
  arcs : ∀ u x, Arc G u x → x < G.length ∧ (u < n → x < n → R u x) ∧ (n ≤ u → x < n)
  jun : ∀ t j u, Arc G t j → Arc G j u → n ≤ j → R t u
section
variable {n : Nat} {R : Nat → Nat → Prop} {G : List (List Nat)} {J : List Bool}
theorem Cau.arc (h : Cau n R G J) {t u : Nat} (ht : t < n) (hu : u < n) (hR : R t u) : Cau n R (arc G t u) J := by
  have hl := h.len
  refine ⟨by rw [arc_len]; exact h.len, by rw [arc_len]; exact h.lenJ, h.low, by rw [arc_len]; exact h.high, fun a x hx => ?_, fun a j x h1 h2 h3 => ?_⟩
  · rw [arc_len]
    rcases arc_sub hx with hx | ⟨rfl, rfl⟩
    · exact h.arcs a x hx
    · exact ⟨by omega, fun _ _ => hR, fun _ => hu⟩
  · rcases arc_sub h1 with k1 | ⟨rfl, rfl⟩
    · rcases arc_sub h2 with k2 | ⟨rfl, rfl⟩
      · exact h.jun a j x k1 k2 h3
      · omega
    · omega
theorem Cau.join (h : Cau n R G J) {ts us : List Nat} (ht : ∀ t ∈ ts, t < n) (hu : ∀ u ∈ us, u < n) (hR : ∀ t ∈ ts, ∀ u ∈ us, R t u) : Cau n R (joinG G ts us) (joinJ J ts us) := by
  have hl := h.len
  have hj := h.lenJ
  unfold joinG joinJ
  by_cases c : 1 < ts.length ∧ 1 < us.length
  · rw [if_pos c, if_pos c]
    have el : (arcsFrom (arcsTo (G ++ [[]]) ts G.length) G.length us).length = G.length + 1 := by rw [arcsFrom_len, arcsTo_len]; simp
    have sub : ∀ a x, Arc (arcsFrom (arcsTo (G ++ [[]]) ts G.length) G.length us) a x → Arc G a x ∨ (a ∈ ts ∧ x = G.length) ∨ (a = G.length ∧ x ∈ us) := fun a x hx => by
      rcases arcsFrom_sub _ _ hx with hx' | hx'
      · rcases arcsTo_sub _ _ hx' with hx2 | hx2
        · exact .inl (snoc_arc.mp hx2)
        · exact .inr (.inl hx2)
      · exact .inr (.inr hx')
    refine ⟨by omega, by rw [el]; simp [hj], fun v hv => ?_, fun v hv hv2 => ?_, fun a x hx => ?_, fun t j u h1 h2 h3 => ?_⟩
    · rw [juncAt_snoc (by omega)]; exact h.low v hv
    · by_cases e : v = G.length
      · rw [e, ← hj, juncAt_last]
      · rw [juncAt_snoc (by omega)]; exact h.high v hv (by omega)
    · rw [el]
      rcases sub a x hx with k | ⟨k, rfl⟩ | ⟨rfl, k⟩
      · obtain ⟨a1, a2, a3⟩ := h.arcs a x k
        exact ⟨by omega, a2, a3⟩
      · have := ht a k
        exact ⟨by omega, fun _ q => by omega, fun q => by omega⟩
      · have := hu x k
        exact ⟨by omega, fun q _ => by omega, fun _ => this⟩
    · rcases sub t j h1 with k | ⟨k, rfl⟩ | ⟨rfl, k⟩
      · have hj1 := (h.arcs t j k).1
        rcases sub j u h2 with k2 | ⟨k2, _⟩ | ⟨k2, _⟩
        · exact h.jun t j u k k2 h3
        · have := ht j k2; omega
        · omega
      · rcases sub _ u h2 with k2 | ⟨k2, _⟩ | ⟨_, k2⟩
        · have := k2.lt; omega
        · have := ht _ k2; omega
        · exact hR t k u k2
      · have := hu j k; omega
  · rw [if_neg c, if_neg c]
    refine ⟨by rw [arcsAll_len]; exact hl, by rw [arcsAll_len]; exact hj, h.low, by rw [arcsAll_len]; exact h.high, fun a x hx => ?_, fun t j u h1 h2 h3 => ?_⟩
    · rw [arcsAll_len]
      rcases arcsAll_sub _ _ hx with hx | ⟨q1, q2⟩
      · exact h.arcs a x hx
      · have := hu x q2
        exact ⟨by omega, fun _ _ => hR a q1 x q2, fun _ => this⟩
    · rcases arcsAll_sub _ _ h1 with k1 | ⟨q1, q2⟩
      · rcases arcsAll_sub _ _ h2 with k2 | ⟨q1, q2⟩
        · exact h.jun t j u k1 k2 h3
        · have := ht j q1; omega
      · have := hu j q2; omega
theorem Cau.pairs {b : Nat} : ∀ (ts : List Nat) {G : List (List Nat)}, Cau n R G J → b < n → (∀ t ∈ ts, t < n ∧ R t b ∧ R b t) → Cau n R (pairs G b ts) J := by
  intro ts
  induction ts with
  | nil => intro G h _ _; exact h
  | cons a ts ih =>
    intro G h hb ht
    obtain ⟨a1, a2, a3⟩ := ht a (by simp)
    exact ih ((h.arc a1 hb a2).arc hb a1 a3) hb (fun t q => ht t (by simp [q]))
theorem Cau.others (h : Cau n R G J) {ts us : List Nat} (ht : ∀ t ∈ ts, t < n) (hu : ∀ u ∈ us, u < n) (hn : ts.Nodup) (hT : ∀ t ∈ ts, ∀ u ∈ us, t ≠ u → R t u) : Cau n R (othersG G ts us) (othersJ J ts us) := by
  unfold othersG othersJ
  have m1 : ∀ x ∈ onlyOf ts us, x ∈ ts ∧ x ∉ us := fun x hx => by simpa [onlyOf] using hx
  have m2 : ∀ x ∈ bothOf ts us, x ∈ ts ∧ x ∈ us := fun x hx => by simpa [bothOf] using hx
  have m3 : ∀ x ∈ onlyOf us ts, x ∈ us ∧ x ∉ ts := fun x hx => by simpa [onlyOf] using hx
  have h2 := (h.join (fun t q => ht t (m1 t q).1) hu (fun t q u q' => hT t (m1 t q).1 u q' (fun e => (m1 t q).2 (e ▸ q')))).join (ts := bothOf ts us) (us := onlyOf us ts) (fun t q => ht t (m2 t q).1) (fun u q => hu u (m3 u q).1) (fun t q u q' => hT t (m2 t q).1 u (m3 u q').1 (fun e => (m3 u q').2 (e ▸ (m2 t q).1)))
  have hnb : (bothOf ts us).Nodup := hn.filter _
  generalize joinG (joinG G (onlyOf ts us) us) (bothOf ts us) (onlyOf us ts) = G2 at h2 ⊢
  generalize joinJ (joinJ J (onlyOf ts us) us) (bothOf ts us) (onlyOf us ts) = J2 at h2 ⊢
  match hq : bothOf ts us with
  | [] => exact h2
  | b :: l =>
    rw [hq] at m2 hnb
    have hb := m2 b (by simp)
    refine h2.pairs _ (ht b hb.1) (fun t q => ?_)
    have q' : t ∈ l := q
    have htm := m2 t (by simp [q'])
    have hne : t ≠ b := fun e => by subst e; simp only [List.nodup_cons] at hnb; exact hnb.1 q'
    exact ⟨ht t htm.1, hT t htm.1 b hb.2 hne, hT b hb.1 t htm.2 (fun e => hne e.symm)⟩
end
theorem Cau.init {n : Nat} {R : Nat → Nat → Prop} : ∀ (os : List Ob) (G : List (List Nat)) (J : List Bool), Cau n R G J → (∀ o ∈ os, (∀ t ∈ o.ini, t < n) ∧ (∀ t ∈ o.wr, t < n) ∧ o.ini.Nodup ∧ ∀ t ∈ o.ini, ∀ u ∈ o.wr, t ≠ u → R t u) → Cau n R (initG G os) (initJ J os) := by
  intro os
  induction os with
  | nil => intro G J h _; exact h
  | cons o os ih =>
    intro G J h ho
    obtain ⟨a, b, c, d⟩ := ho o (by simp)
    exact ih _ _ (h.others a b c d) (fun o' ho' => ho o' (by simp [ho']))
theorem Cau.over {n : Nat} {R : Nat → Nat → Prop} : ∀ (ss : List Sr) (rs : List (List Nat)) (G : List (List Nat)) (J : List Bool), Cau n R G J → (∀ (k : Nat) (s : Sr) (r : List Nat), ss[k]? = some s → rs[k]? = some r → (∀ t ∈ s.rd, t < n) ∧ (∀ t ∈ r, t < n) ∧ s.rd.Nodup ∧ ∀ t ∈ s.rd, ∀ u ∈ r, t ≠ u → R t u) → Cau n R (overG G ss rs) (overJ J ss rs) := by
  intro ss
  induction ss with
  | nil => intro rs G J h _; rw [overG_nil, overJ_nil]; exact h
  | cons s ss ih =>
    intro rs G J h hk
    cases rs with
    | nil => exact h
    | cons r rs =>
      obtain ⟨a, b, c, d⟩ := hk 0 s r rfl rfl
      simp only [overG, overJ]
      refine ih rs _ _ ?_ (fun k s' r' q1 q2 => hk (k + 1) s' r' (by simpa using q1) (by simpa using q2))
      by_cases e : r = []
      · rw [if_pos e, if_pos e]; exact h
      · rw [if_neg e, if_neg e]; exact h.others a b c d
/-- No size above one among transactions, and no cause from a node to itself: no cycle. -/
theorem Cau.acy {n : Nat} {R : Nat → Nat → Prop} {G : List (List Nat)} {J : List Bool} (h : Cau n R G J) (irr : ∀ x, ¬ R x x) {cmp : List Int} {siz : List Nat} (hc : Comp G cmp siz) (h1 : ∀ t < n, ∀ (c k : Nat), cmp[t]? = some (c : Int) → siz[c]? = some k → k ≤ 1) : Acy G := by
  have lab : ∀ x, x < G.length → ∃ c : Nat, cmp[x]? = some (c : Int) ∧ c < siz.length := hc.all
  have le : ∀ x y, Rch G x y → x < G.length → ∀ a b : Int, cmp[x]? = some a → cmp[y]? = some b → b ≤ a := by
    intro x y hxy
    unfold Rch at hxy
    induction hxy with
    | refl _ => intro _ a b ha hb; rw [ha] at hb; injection hb with hb; omega
    | step _ hxy _ ih =>
      intro hx a b ha hb
      have hy := (h.arcs _ _ (outs_arc hxy)).1
      obtain ⟨c, hc1, _⟩ := lab _ hy
      have e1 := hc.arc _ _ hxy a c ha hc1
      have e2 := ih hy c b hc1 hb
      omega
  have real : ∀ x y, x < n → y ∈ outs G x → ¬ Rch G y x := by
    intro x y hx hxy hyx
    have hxG : x < G.length := by have := h.len; omega
    have hy := (h.arcs _ _ (outs_arc hxy)).1
    obtain ⟨a, ha, hal⟩ := lab x hxG
    obtain ⟨b, hb, _⟩ := lab y hy
    have e1 := hc.arc _ _ hxy a b ha hb
    have e2 := le y x hyx hy b a hb ha
    have : a = b := by omega
    subst this
    obtain ⟨k, hk⟩ := has_at siz hal
    have hk1 := h1 x hx a k ha hk
    obtain ⟨l, l1, l2, l3⟩ := hc.cnt a k hk
    have mx := (l3 x).mpr ha
    have my := (l3 y).mpr hb
    have exy : x = y := by
      match l, l2 with
      | [], _ => simp at mx
      | [z], _ => simp at mx my; omega
      | _ :: _ :: _, l2 => simp at l2; omega
    subst exy
    exact irr x ((h.arcs x x (outs_arc hxy)).2.1 hx hx)
  intro x y hxy hyx
  by_cases hx : x < n
  · exact real x y hx hxy hyx
  · have hy := (h.arcs _ _ (outs_arc hxy)).2.2 (by omega)
    unfold Rch at hyx
    cases hyx with
    | refl _ => omega
    | step _ h2 h3 => exact real y _ hy h2 (Rch.tail h3 hxy)
/-! ## What is joined reaches. -/
theorem Rch.mono {G G' : List (List Nat)} (h : ∀ u x, Arc G u x → Arc G' u x) {x y : Nat} (hr : Rch G x y) : Rch G' x y := by
  unfold Rch at hr
  induction hr with
  | refl _ => exact Rch.refl _
  | step _ h1 _ ih => exact Rch.cons (h _ _ (outs_arc h1)).outs ih
theorem Arc.rch {G : List (List Nat)} {x y : Nat} (h : Arc G x y) : Rch G x y := Rch.cons h.outs (Rch.refl _)
theorem arcsFrom_new {t x : Nat} : ∀ (us : List Nat) (G : List (List Nat)), t < G.length → x ∈ us → Arc (arcsFrom G t us) t x := by
  intro us
  induction us with
  | nil => intro G _ h; simp at h
  | cons a us ih =>
    intro G hl h
    rcases List.mem_cons.mp h with rfl | h
    · exact arcsFrom_sup us _ (arc_new hl)
    · exact ih _ (by rw [arc_len]; exact hl) h
theorem arcsTo_new {t v : Nat} : ∀ (ts : List Nat) (G : List (List Nat)), t < G.length → t ∈ ts → Arc (arcsTo G ts v) t v := by
  intro ts
  induction ts with
  | nil => intro G _ h; simp at h
  | cons a ts ih =>
    intro G hl h
    rcases List.mem_cons.mp h with rfl | h
    · exact arcsTo_sup ts _ (arc_new hl)
    · exact ih _ (by rw [arc_len]; exact hl) h
theorem arcsAll_new {us : List Nat} {t x : Nat} : ∀ (ts : List Nat) (G : List (List Nat)), t < G.length → t ∈ ts → x ∈ us → Arc (arcsAll G ts us) t x := by
  intro ts
  induction ts with
  | nil => intro G _ h; simp at h
  | cons a ts ih =>
    intro G hl h hx
    rcases List.mem_cons.mp h with rfl | h
    · exact arcsAll_sup ts _ (arcsFrom_new us G hl hx)
    · exact ih _ (by rw [arcsFrom_len]; exact hl) h hx
theorem joinG_rch {G : List (List Nat)} {ts us : List Nat} {t u : Nat} (hl : t < G.length) (ht : t ∈ ts) (hu : u ∈ us) : Rch (joinG G ts us) t u := by
  unfold joinG
  split
  · have h1 : Arc (arcsFrom (arcsTo (G ++ [[]]) ts G.length) G.length us) t G.length := arcsFrom_sup us _ (arcsTo_new ts _ (by simp; omega) ht)
    have h2 : Arc (arcsFrom (arcsTo (G ++ [[]]) ts G.length) G.length us) G.length u := arcsFrom_new us _ (by rw [arcsTo_len]; simp) hu
    exact Rch.cons h1.outs h2.rch
  · exact (arcsAll_new ts G hl ht hu).rch
theorem pairs_new {b t : Nat} : ∀ (ts : List Nat) (G : List (List Nat)), t < G.length → b < G.length → t ∈ ts → Arc (pairs G b ts) t b ∧ Arc (pairs G b ts) b t := by
  intro ts
  induction ts with
  | nil => intro G _ _ h; simp at h
  | cons a ts ih =>
    intro G hl hb h
    rcases List.mem_cons.mp h with rfl | h
    · exact ⟨pairs_sup ts _ (arc_sup (arc_new hl)), pairs_sup ts _ (arc_new (by rw [arc_len]; exact hb))⟩
    · exact ih _ (by rw [arc_len, arc_len]; exact hl) (by rw [arc_len, arc_len]; exact hb) h
theorem othersG_rch {G : List (List Nat)} {ts us : List Nat} {t u : Nat} (hl : ∀ t ∈ ts, t < G.length) (ht : t ∈ ts) (hu : u ∈ us) (hne : t ≠ u) : Rch (othersG G ts us) t u := by
  unfold othersG
  have a1 := joinG_len G (onlyOf ts us) us
  have a2 := joinG_len (joinG G (onlyOf ts us) us) (bothOf ts us) (onlyOf us ts)
  by_cases c : t ∈ us
  · have htb : t ∈ bothOf ts us := by simp [bothOf, ht, c]
    by_cases c2 : u ∈ ts
    · have hub : u ∈ bothOf ts us := by simp [bothOf, hu, c2]
      have hlt := hl t ht
      have hlu := hl u c2
      match hq : bothOf ts us with
      | [] => rw [hq] at htb; simp at htb
      | b :: l =>
        have hbm : b ∈ bothOf ts us := by rw [hq]; simp
        have hlb := hl b (by simp [bothOf] at hbm; exact hbm.1)
        rw [hq] at htb hub a2
        show Rch (pairs _ b l) t u
        have key : ∀ x, x < G.length → x ∈ b :: l → x ≠ b → Arc (pairs (joinG (joinG G (onlyOf ts us) us) (b :: l) (onlyOf us ts)) b l) x b ∧ Arc (pairs (joinG (joinG G (onlyOf ts us) us) (b :: l) (onlyOf us ts)) b l) b x := fun x hx hm hn => by
          refine pairs_new l _ (by omega) (by omega) ?_
          rcases List.mem_cons.mp hm with rfl | hm
          · exact absurd rfl hn
          · exact hm
        by_cases e1 : t = b
        · subst e1
          exact (key u hlu hub (fun e => hne e.symm)).2.rch
        · by_cases e2 : u = b
          · subst e2
            exact (key t hlt htb e1).1.rch
          · exact Rch.cons (key t hlt htb e1).1.outs (key u hlu hub e2).2.rch
    · have huo : u ∈ onlyOf us ts := by simp [onlyOf, hu, c2]
      exact Rch.mono (fun _ _ h => pairs_sup _ _ h) (joinG_rch (by have := hl t ht; omega) htb huo)
  · have hto : t ∈ onlyOf ts us := by simp [onlyOf, ht, c]
    exact Rch.mono (fun _ _ h => pairs_sup _ _ (joinG_sup h)) (joinG_rch (hl t ht) hto hu)
theorem othersG_le (G : List (List Nat)) (ts us : List Nat) : G.length ≤ (othersG G ts us).length := by
  have a1 := joinG_len G (onlyOf ts us) us
  have a2 := joinG_len (joinG G (onlyOf ts us) us) (bothOf ts us) (onlyOf us ts)
  unfold othersG
  rw [pairs_len]; omega
theorem initG_rch {t u : Nat} {o : Ob} : ∀ (os : List Ob) (G : List (List Nat)), (∀ o ∈ os, ∀ t ∈ o.ini, t < G.length) → o ∈ os → t ∈ o.ini → u ∈ o.wr → t ≠ u → Rch (initG G os) t u := by
  intro os
  induction os with
  | nil => intro G _ h; simp at h
  | cons a os ih =>
    intro G hl h ht hu hne
    rcases List.mem_cons.mp h with rfl | h
    · exact Rch.mono (fun _ _ q => initG_sup os _ q) (othersG_rch (hl o (by simp)) ht hu hne)
    · exact ih (othersG G a.ini a.wr) (fun o' ho' t' ht' => by have := hl o' (by simp [ho']) t' ht'; have := othersG_le G a.ini a.wr; omega) h ht hu hne
/-- The placed order keeps to what reaches. -/
theorem Trace.rch {G : List (List Nat)} {J : List Bool} {D : List Nat} (tr : Trace G J D) (all : ∀ x, x < G.length → x ∈ D) (rng : ∀ u x, x ∈ outs G u → x < G.length) {x y : Nat} (h : Rch G x y) : x = y ∨ (x < G.length ∧ y < G.length ∧ D.idxOf x < D.idxOf y) := by
  unfold Rch at h
  induction h with
  | refl _ => exact .inl rfl
  | step _ h1 _ ih =>
    have l1 := outs_lt h1
    have l2 := rng _ _ h1
    have := befo_idx (tr.befo all h1 l2) tr.nodup
    rcases ih with rfl | ⟨_, b, c⟩
    · exact .inr ⟨l1, l2, this⟩
    · exact .inr ⟨l1, b, by omega⟩
end Go.Proofs.YbulkctquGreatFmt

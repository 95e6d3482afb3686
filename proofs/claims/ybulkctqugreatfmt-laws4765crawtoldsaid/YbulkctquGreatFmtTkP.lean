/-
  takeUp, no Go in sight: which choices are taken up.
-/
import Derived.Test.YbulkctquGreatFmtTkC
import Derived.Test.YbulkctquGreatFmtChB
namespace Go.Proofs.YbulkctquGreatFmt
open Go.ChangeShapes Go.WideShapes Go.ChangeAt Go.RowKit Go.Ord
set_option linter.unusedVariables false

/-- The choices taken up by the sources below k: each once, each broken by the order P, and all that are. -/
structure NwI (ss : List Sr) (os : List Ob) (P : List Nat) (k : Nat) (nw : List (Nat × Nat × Nat)) : Prop where
  snd : ∀ p ∈ nw, p.1 < k ∧ ∃ (s : Sr) (o : Ob) (j : Nat), ss[p.1]? = some s ∧ os[s.ob]? = some o ∧ o.wr[j]? = some p.2.1 ∧ o.rk[j]? = some p.2.2 ∧ P.idxOf s.wr < P.idxOf p.2.1 ∧ ∃ t ∈ s.rd, P.idxOf p.2.1 < P.idxOf t
  nd : (nw.map (fun p => (p.1, p.2.1))).Nodup
  cmp : ∀ (k' : Nat) (s : Sr) (o : Ob) (u : Nat), k' < k → ss[k']? = some s → os[s.ob]? = some o → u ∈ o.wr → P.idxOf s.wr < P.idxOf u → (∃ t ∈ s.rd, P.idxOf u < P.idxOf t) → ∃ p ∈ nw, p.1 = k' ∧ p.2.1 = u
theorem NwI.start (ss : List Sr) (os : List Ob) (P : List Nat) : NwI ss os P 0 [] := ⟨by simp, by simp, fun k' s o u h => by omega⟩
def nwOf (k : Nat) (o : Ob) (z : Nat) : Nat × Nat × Nat := (k, o.wr.getD z 0, o.rk.getD z 0)
theorem NwI.step {ss : List Sr} {os : List Ob} {P : List Nat} {k : Nat} {nw : List (Nat × Nat × Nat)} (h : NwI ss os P k nw) {s : Sr} {o : Ob} (hs : ss[k]? = some s) (ho : os[s.ob]? = some o) (hwn : o.wr.Nodup) (hrk : o.rk.length = o.wr.length) (hsw : s.wr ∈ o.wr) (hP : ∀ u ∈ o.wr, u ∈ P)
    {zs : List Nat} (hz : zs.Perm (List.range o.wr.length)) (hso : ∀ i j a b : Nat, i < j → zs[i]? = some a → zs[j]? = some b → ¬ P.idxOf (o.wr.getD b 0) < P.idxOf (o.wr.getD a 0)) {la i j : Nat} (hla : la ∈ s.rd) (hlm : ∀ y ∈ s.rd, P.idxOf y ≤ P.idxOf la)
    (hi2 : ∀ j z, j < i → zs[j]? = some z → P.idxOf (o.wr.getD z 0) < P.idxOf s.wr) (hi3 : ∀ j z, i ≤ j → zs[j]? = some z → P.idxOf s.wr ≤ P.idxOf (o.wr.getD z 0))
    (hj : ∀ z ∈ (zs.drop (i + 1)).take j, P.idxOf (o.wr.getD z 0) < P.idxOf la) (hst : (zs.drop (i + 1)).length ≤ j ∨ ∃ z, (zs.drop (i + 1))[j]? = some z ∧ P.idxOf la ≤ P.idxOf (o.wr.getD z 0)) :
    NwI ss os P (k + 1) (nw ++ ((zs.drop (i + 1)).take j).map (nwOf k o)) := by
  have zn : zs.Nodup := hz.nodup_iff.mpr List.nodup_range
  have zm : ∀ z ∈ zs, z < o.wr.length := fun z hz' => by have := hz.mem_iff.mp hz'; simpa using this
  have gd : ∀ z, z < o.wr.length → ∃ u, o.wr[z]? = some u ∧ o.wr.getD z 0 = u ∧ u ∈ o.wr := by
    intro z hz'
    obtain ⟨u, hu⟩ := has_at o.wr hz'
    exact ⟨u, hu, by simp [hu], List.mem_of_getElem? hu⟩
  have inj : ∀ a b, a ∈ zs → b ∈ zs → P.idxOf (o.wr.getD a 0) = P.idxOf (o.wr.getD b 0) → a = b := by
    intro a b ha hb he
    obtain ⟨u, u1, u2, u3⟩ := gd a (zm a ha)
    obtain ⟨v, v1, v2, v3⟩ := gd b (zm b hb)
    rw [u2, v2] at he
    have e1 := at_idxOf (hP u u3)
    rw [he, at_idxOf (hP v v3)] at e1
    injection e1 with e1
    subst e1
    exact nodup_at hwn u1 v1
  obtain ⟨z0, hz0⟩ := List.getElem?_of_mem hsw
  have hz0l := (List.getElem?_eq_some_iff.mp hz0).1
  have g0 : o.wr.getD z0 0 = s.wr := by simp [hz0]
  have m0 : z0 ∈ zs := hz.mem_iff.mpr (by simpa using hz0l)
  obtain ⟨j0, hj0⟩ := List.getElem?_of_mem m0
  have j0i : j0 = i := by
    rcases Nat.lt_trichotomy j0 i with c | c | c
    · have := hi2 j0 z0 c hj0
      rw [g0] at this; omega
    · exact c
    · have hj0l := (List.getElem?_eq_some_iff.mp hj0).1
      obtain ⟨z1, hz1⟩ := has_at zs (k := i) (by omega)
      have a1 := hi3 i z1 (Nat.le_refl _) hz1
      have a2 := hso i j0 z1 z0 c hz1 hj0
      rw [g0] at a2
      have := inj z1 z0 (List.mem_of_getElem? hz1) m0 (by rw [g0]; omega)
      subst this
      have := nodup_at zn hz1 hj0
      omega
  subst j0i
  have gt : ∀ (q z : Nat), j0 + 1 ≤ q → zs[q]? = some z → P.idxOf s.wr < P.idxOf (o.wr.getD z 0) := by
    intro q z hq hqz
    have a1 := hi3 q z (by omega) hqz
    rcases Nat.lt_or_eq_of_le a1 with c | c
    · exact c
    · have := inj z z0 (List.mem_of_getElem? hqz) m0 (by rw [g0]; exact c.symm)
      subst this
      have := nodup_at zn hqz hj0
      omega
  have mt : ∀ z ∈ (zs.drop (j0 + 1)).take j, z ∈ zs ∧ P.idxOf s.wr < P.idxOf (o.wr.getD z 0) := by
    intro z hz'
    have h1 := List.mem_of_mem_take hz'
    obtain ⟨q, hq⟩ := List.getElem?_of_mem h1
    rw [List.getElem?_drop] at hq
    exact ⟨List.mem_of_getElem? hq, gt _ z (by omega) hq⟩
  refine ⟨?_, ?_, ?_⟩
  · intro p hp
    rcases List.mem_append.mp hp with hp | hp
    · obtain ⟨a, b⟩ := h.snd p hp
      exact ⟨by omega, b⟩
    · obtain ⟨z, hz', rfl⟩ := List.mem_map.mp hp
      obtain ⟨z1, z2⟩ := mt z hz'
      obtain ⟨u, u1, u2, u3⟩ := gd z (zm z z1)
      obtain ⟨r, hr⟩ := has_at o.rk (k := z) (by rw [hrk]; exact zm z z1)
      refine ⟨Nat.lt_succ_self k, s, o, z, hs, ho, ?_, ?_, z2, la, hla, hj z hz'⟩
      · simp only [nwOf, u2]; exact u1
      · simp [nwOf, hr]
  · rw [List.map_append, List.nodup_append]
    refine ⟨h.nd, ?_, ?_⟩
    · rw [List.map_map]
      refine List.Pairwise.map _ (R := fun a b => a ∈ zs ∧ b ∈ zs ∧ a ≠ b) ?_ ?_
      · rintro a b ⟨ha, hb, hne⟩ e
        simp only [Function.comp, nwOf, Prod.mk.injEq, true_and] at e
        exact hne (inj a b ha hb (by rw [e]))
      · have n1 : ((zs.drop (j0 + 1)).take j).Nodup := (List.Nodup.sublist ((List.take_sublist _ _).trans (List.drop_sublist _ _)) zn)
        exact List.Pairwise.imp_of_mem (fun {a b} ha hb hab => ⟨(mt a ha).1, (mt b hb).1, hab⟩) n1
    · intro a ha b hb e
      subst e
      obtain ⟨p, hp, rfl⟩ := List.mem_map.mp ha
      obtain ⟨q, hq, hq2⟩ := List.mem_map.mp hb
      obtain ⟨z, hz', rfl⟩ := List.mem_map.mp hq
      have := (h.snd p hp).1
      simp only [nwOf, Prod.mk.injEq] at hq2
      omega
  · intro k' s' o' u hk' hs' ho' hu hlt ⟨t, ht, hut⟩
    by_cases e : k' = k
    · subst e
      rw [hs] at hs'; injection hs' with hs'; subst hs'
      rw [ho] at ho'; injection ho' with ho'; subst ho'
      obtain ⟨z, hz'⟩ := List.getElem?_of_mem hu
      have hzl := (List.getElem?_eq_some_iff.mp hz').1
      have gz : o.wr.getD z 0 = u := by simp [hz']
      have mz : z ∈ zs := hz.mem_iff.mpr (by simpa using hzl)
      obtain ⟨q, hq⟩ := List.getElem?_of_mem mz
      have hql := (List.getElem?_eq_some_iff.mp hq).1
      have hq1 : j0 + 1 ≤ q := by
        rcases Nat.lt_trichotomy q j0 with c | c | c
        · have := hi2 q z c hq
          rw [gz] at this; omega
        · subst c
          rw [hq] at hj0; injection hj0 with hj0; subst hj0
          rw [gz] at g0; subst g0; omega
        · omega
      have hdq : (zs.drop (j0 + 1))[q - (j0 + 1)]? = some z := by
        rw [List.getElem?_drop, show j0 + 1 + (q - (j0 + 1)) = q by omega]; exact hq
      have htl := hlm t ht
      have hqj : q - (j0 + 1) < j := by
        rcases hst with c | ⟨z', c1, c2⟩
        · have := (List.getElem?_eq_some_iff.mp hdq).1; omega
        · rcases Nat.lt_trichotomy (q - (j0 + 1)) j with d | d | d
          · exact d
          · subst d
            rw [hdq] at c1; injection c1 with c1; subst c1
            rw [gz] at c2; omega
          · rw [List.getElem?_drop] at c1
            have := hso (j0 + 1 + j) q z' z (by omega) c1 hq
            rw [gz] at this; omega
      refine ⟨nwOf k' o z, List.mem_append_right _ (List.mem_map_of_mem (List.mem_of_getElem? (i := q - (j0 + 1)) ?_)), rfl, gz⟩
      rw [List.getElem?_take, if_pos hqj]; exact hdq
    · obtain ⟨p, hp, h1, h2⟩ := h.cmp k' s' o' u (by omega) hs' ho' hu hlt ⟨t, ht, hut⟩
      exact ⟨p, List.mem_append_left _ hp, h1, h2⟩
/-- The choices in memory's words. -/
def choOf (ss : List Sr) (p : Nat × Nat × Nat) : Cho := match ss[p.1]? with | some s => mkCho s p.2.1 p.2.2 | none => ⟨⟨[], 0⟩, ⟨[], 0⟩, 0⟩
end Go.Proofs.YbulkctquGreatFmt

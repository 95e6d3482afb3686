/-
  search, no Go in sight: the pairs taken up, and what the placed order keeps to.
-/
import Derived.Test.YbulkctquGreatFmtChoE
import Derived.Test.YbulkctquGreatFmtSea
namespace Go.Proofs.YbulkctquGreatFmt
open Go.ChangeShapes Go.WideShapes Go.ChangeAt Go.RowKit Go.Ord
set_option linter.unusedVariables false

theorem outs_lt {G : List (List Nat)} {u x : Nat} (h : x ∈ outs G u) : u < G.length := by
  apply Classical.byContradiction
  intro hn
  simp [outs, List.getD_eq_getElem?_getD, List.getElem?_eq_none (show G.length ≤ u by omega)] at h
theorem Rch.trans {G : List (List Nat)} {x y z : Nat} (h : Rch G x y) (k : Rch G y z) : Rch G x z := RI.trans h k
open Classical in
theorem filter_lt {α : Type} (U : List α) (p q : α → Prop) (h : ∀ x, p x → q x) {y : α} (hy : y ∈ U) (hq : q y) (hp : ¬ p y) : (U.filter (fun x => decide (p x))).length < (U.filter (fun x => decide (q x))).length := by
  induction U with
  | nil => simp at hy
  | cons a U ih =>
    have le : (U.filter (fun x => decide (p x))).length ≤ (U.filter (fun x => decide (q x))).length := by
      rw [← List.countP_eq_length_filter, ← List.countP_eq_length_filter]
      exact List.countP_mono_left (fun x _ hx => by simpa using h x (by simpa using hx))
    simp only [List.mem_cons] at hy
    rcases hy with rfl | hy
    · simp [hp, hq]; omega
    · have := ih hy
      by_cases e : p a
      · simp [e, h a e]; omega
      · by_cases e2 : q a
        · simp [e, e2]; omega
        · simp [e, e2]; omega
open Classical in
/-- No set of nodes has a predecessor for each in itself. -/
theorem Acy.minimal {G : List (List Nat)} (hA : Acy G) (U : List Nat) (hU : U ≠ []) : ∃ x ∈ U, ∀ y ∈ U, x ∉ outs G y := by
  apply Classical.byContradiction
  intro hn
  have pr : ∀ x ∈ U, ∃ y ∈ U, x ∈ outs G y := fun x hx => by
    apply Classical.byContradiction
    intro h
    exact hn ⟨x, hx, fun y hy hxy => h ⟨y, hy, hxy⟩⟩
  have key : ∀ n : Nat, ∃ x ∈ U, n ≤ (U.filter (fun z => decide (Rch G x z))).length := by
    intro n
    induction n with
    | zero =>
      obtain ⟨x, hx⟩ := List.exists_mem_of_ne_nil _ hU
      exact ⟨x, hx, Nat.zero_le _⟩
    | succ n ih =>
      obtain ⟨x, hx, hl⟩ := ih
      obtain ⟨y, hy, hxy⟩ := pr x hx
      refine ⟨y, hy, ?_⟩
      have := filter_lt U (fun z => Rch G x z) (fun z => Rch G y z) (fun z hz => Rch.cons hxy hz) hy (Rch.refl y) (hA y x hxy)
      omega
  obtain ⟨x, _, hl⟩ := key (U.length + 1)
  have := List.length_filter_le (fun z => decide (Rch G x z)) U
  omega
theorem Acy.placed {G : List (List Nat)} {J : List Bool} {D : List Nat} (hA : Acy G) (hd : ∀ x, x < G.length → x ∉ D → cnt G D x ≠ 0) : ∀ x, x < G.length → x ∈ D := by
  intro x hx
  apply Classical.byContradiction
  intro hn
  have hU : (List.range G.length).filter (fun z => decide (z ∉ D)) ≠ [] := by
    have : x ∈ (List.range G.length).filter (fun z => decide (z ∉ D)) := by simp [hx, hn]
    exact List.ne_nil_of_mem this
  obtain ⟨y, hy, hm⟩ := hA.minimal _ hU
  simp only [List.mem_filter, List.mem_range, decide_eq_true_eq] at hy
  refine hd y hy.1 hy.2 ((cnt_zero G D y).mpr (fun u hu hnu => hm u (by simp [hu, hnu])))
theorem Trace.befo {G : List (List Nat)} {J : List Bool} {D : List Nat} (tr : Trace G J D) (all : ∀ x, x < G.length → x ∈ D) {x y : Nat} (h : y ∈ outs G x) (hy : y < G.length) : ∃ D1 D2, D = D1 ++ y :: D2 ∧ x ∈ D1 := by
  obtain ⟨D1, D2, e⟩ := List.append_of_mem (all y hy)
  exact ⟨D1, D2, e, (tr D1 y D2 e).2.2.1 x (outs_lt h) h⟩
theorem befo_idx {P : List Nat} {x y : Nat} (h : Befo P x y) (nd : P.Nodup) : P.idxOf x < P.idxOf y := by
  obtain ⟨P1, P2, e, hx⟩ := h
  subst e
  have hy : y ∉ P1 := by
    intro hm
    rw [List.nodup_append] at nd
    exact nd.2.2 y hm y (by simp) rfl
  rw [List.idxOf_append, if_pos hx, List.idxOf_append, if_neg hy]
  have := List.idxOf_lt_length_iff.mpr hx
  omega
/-- The pairs taken up. -/
structure PRI (ss : List Sr) (os : List Ob) (PR : List (Nat × Nat × Nat)) : Prop where
  nd : (PR.map (fun p => (p.1, p.2.1))).Nodup
  ok : ∀ p ∈ PR, ∃ (s : Sr) (o : Ob), ss[p.1]? = some s ∧ os[s.ob]? = some o ∧ p.2.1 ∈ o.wr ∧ p.2.1 ≠ s.wr ∧ ∃ t ∈ s.rd, t ≠ p.2.1
theorem PRI.nil (ss : List Sr) (os : List Ob) : PRI ss os [] := ⟨by simp, by simp⟩
def ChOf (ss : List Sr) (os : List Ob) (C : Cho) : Prop := ∃ (s : Sr) (o : Ob) (u : Nat), s ∈ ss ∧ os[s.ob]? = some o ∧ u ∈ o.wr ∧ u ≠ s.wr ∧ (∃ t ∈ s.rd, t ≠ u) ∧ C.a0 = ⟨[u], s.wr⟩ ∧ C.a1 = ⟨s.rd.filter (fun t => t != u), u⟩
theorem PRI.cho {ss : List Sr} {os : List Ob} {PR : List (Nat × Nat × Nat)} (h : PRI ss os PR) {cs : List Cho} (hs : SameC (PR.map (choOf ss)) cs) {C : Cho} (hC : C ∈ cs) : ChOf ss os C := by
  obtain ⟨C0, h1, h2, h3⟩ := hs.mem hC
  obtain ⟨p, hp, rfl⟩ := List.mem_map.mp h1
  obtain ⟨s, o, e1, e2, e3, e4, e5⟩ := h.ok p hp
  refine ⟨s, o, p.2.1, List.mem_of_getElem? e1, e2, e3, e4, e5, ?_, ?_⟩
  · rw [h2]; simp [choOf, e1, mkCho]
  · rw [h3]; simp [choOf, e1, mkCho]
/-- What the search asks of sources and objects. -/
structure SrOk (m : Nat) (G : List (List Nat)) (ss : List Sr) (os : List Ob) : Prop where
  oo : ∀ o ∈ os, (∀ t ∈ o.wr, t < m) ∧ o.wr.Nodup ∧ o.wr.length ≤ m ∧ o.rk.length = o.wr.length
  sr : ∀ s ∈ ss, s.wr < m ∧ (∀ t ∈ s.rd, t < m) ∧ s.rd ≠ [] ∧ s.rd.length ≤ m ∧ ∃ o, os[s.ob]? = some o ∧ s.wr ∈ o.wr
  rn : ∀ s ∈ ss, s.rd.Nodup
  ar : ∀ s ∈ ss, ∀ t ∈ s.rd, t ∈ outs G s.wr
  bd : ∀ l : List (Nat × Nat), l.Nodup → (∀ p ∈ l, ∃ (s : Sr) (o : Ob), ss[p.1]? = some s ∧ os[s.ob]? = some o ∧ p.2 ∈ o.wr ∧ p.2 ≠ s.wr) → l.length ≤ 60
theorem PRI.len {m : Nat} {G : List (List Nat)} {ss : List Sr} {os : List Ob} {PR : List (Nat × Nat × Nat)} (h : PRI ss os PR) (S : SrOk m G ss os) : PR.length ≤ 60 := by
  have := S.bd _ h.nd (fun p hp => by
    obtain ⟨q, hq, rfl⟩ := List.mem_map.mp hp
    obtain ⟨s, o, e1, e2, e3, e4, e5⟩ := h.ok q hq
    exact ⟨s, o, e1, e2, e3, e4⟩)
  simpa using this
section
variable {m : Nat} {G : List (List Nat)} {ss : List Sr} {os : List Ob} {C : Cho}
theorem ChOf.lens (h : ChOf ss os C) (S : SrOk m G ss os) (hm : m ≤ 12) : C.a0.f.length ≤ 100 ∧ C.a1.f.length ≤ 100 ∧ C.a0.f.Nodup ∧ C.a1.f.Nodup := by
  obtain ⟨s, o, u, h1, h2, h3, h4, h5, h6, h7⟩ := h
  have a := (S.sr s h1).2.2.2.1
  have b := List.length_filter_le (fun t => t != u) s.rd
  rw [h6, h7]
  exact ⟨by simp, by show (s.rd.filter (fun t => t != u)).length ≤ 100; omega, by simp, List.Nodup.sublist List.filter_sublist (S.rn s h1)⟩
theorem ChOf.lts (h : ChOf ss os C) (S : SrOk m G ss os) (hm : m ≤ G.length) : ((∀ t ∈ C.a0.f, t < G.length) ∧ ∀ t ∈ C.a1.f, t < G.length) ∧ C.a0.i < m ∧ C.a1.i < m := by
  obtain ⟨s, o, u, h1, h2, h3, h4, h5, h6, h7⟩ := h
  have hu := (S.oo o (List.mem_of_getElem? h2)).1 u h3
  obtain ⟨a, b, _⟩   := S.sr s h1
  rw [h6, h7]
  refine ⟨⟨fun t ht => ?_, fun t ht => ?_⟩, a, hu⟩
  · simp at ht; omega
  · have := b t (List.mem_filter.mp ht).1; omega
theorem ChOf.inLab (h : ChOf ss os C) (S : SrOk m G ss os) (hm : m ≤ G.length) {cs : List Cho} (hC : C ∈ cs) {cmp : List Int} {siz : List Nat} (hc : Comp (allG G cs) cmp siz) : ChIn cmp C := by
  obtain ⟨⟨l1, l2⟩, _, _⟩ := h.lts S hm
  obtain ⟨n1, n2⟩ := allG_new cs G C hC
  obtain ⟨s, o, u, h1, h2, h3, h4, ⟨t0, ht0, hne⟩, h6, h7⟩ := h
  have hu := (S.oo o (List.mem_of_getElem? h2)).1 u h3
  obtain ⟨a, b, _⟩   := S.sr s h1
  rw [h6] at n1 l1
  rw [h7] at n2 l2
  have lab : ∀ x, x < m → cmp[x]? = some (labOf cmp x : Int) := fun x hx => hc.lab (by rw [allG_len]; omega)
  have e1 : labOf cmp s.wr ≤ labOf cmp u := by
    have := hc.arc u s.wr (n1 u (by simp) (by omega)) _ _ (lab u hu) (lab s.wr a)
    omega
  have e2 : ∀ t ∈ s.rd, labOf cmp t ≤ labOf cmp s.wr := fun t ht => by
    have := hc.arc s.wr t (allG_old cs G _ _ (S.ar s h1 t ht)) _ _ (lab _ a) (lab t (b t ht))
    omega
  have e3 : ∀ t ∈ s.rd, t ≠ u → labOf cmp u ≤ labOf cmp t := fun t ht hn => by
    have := hc.arc t u (n2 t (List.mem_filter.mpr ⟨ht, by simpa using hn⟩) (by have := b t ht; omega)) _ _ (lab t (b t ht)) (lab u hu)
    omega
  have f1 := e2 t0 ht0
  have f2 := e3 t0 ht0 hne
  unfold ChIn
  rw [h6, h7]
  refine ⟨(labOf cmp s.wr : Int), lab _ a, ?_, fun t ht => ?_, fun t ht => ?_⟩
  · show cmp[u]? = _
    rw [lab u hu, show labOf cmp u = labOf cmp s.wr by omega]
  · simp at ht; subst ht
    rw [lab _ hu, show labOf cmp t = labOf cmp s.wr by omega]
  · obtain ⟨g1, g2⟩ := List.mem_filter.mp ht
    have g3 := e2 t g1
    have g4 := e3 t g1 (by simpa using g2)
    rw [lab _ (b t g1), show labOf cmp t = labOf cmp s.wr by omega]
theorem chosen_wt : ∀ (cs : List Cho) (G : List (List Nat)), (∀ C ∈ cs, C.a0.f.length ≤ 100 ∧ C.a1.f.length ≤ 100) → wt (chosen G cs) ≤ wt G + 100 * cs.length
  | [], G, _ => by simp [chosen]
  | C :: cs, G, h => by
    have h1 := chosen_wt cs (pickG G (altC C)) (fun D hD => h D (by simp [hD]))
    have h2 := arcsTo_wt (altC C).i (altC C).f G
    obtain ⟨h4, h5⟩ := h C (by simp)
    have h6 : (altC C).f.length ≤ 100 := by unfold altC; split <;> assumption
    show wt (chosen (pickG G (altC C)) cs) ≤ _
    unfold pickG at *
    simp only [List.length_cons]
    omega
theorem chosen_lt {cs : List Cho} (hG : ∀ u, ∀ x ∈ outs G u, x < G.length) (hC : ∀ C ∈ cs, C.a0.i < G.length ∧ C.a1.i < G.length) : ∀ u, ∀ x ∈ outs (chosen G cs) u, x < (chosen G cs).length := fun u x hx => by
  rw [chosen_len]
  rcases chosen_mem cs G u x hx with h | ⟨C, h1, h2, h3⟩
  · exact hG u x h
  · have := hC C h1
    rw [h3]; unfold altC; split
    · exact this.1
    · exact this.2
end
/-- The new pairs are new. -/
theorem PRI.more {m : Nat} {G : List (List Nat)} {J : List Bool} {ss : List Sr} {os : List Ob} {PR nw : List (Nat × Nat × Nat)} {cs : List Cho} {D : List Nat} (h : PRI ss os PR) (S : SrOk m G ss os) (hm : m ≤ G.length) (hs : SameC (PR.map (choOf ss)) cs) (tr : Trace (chosen G cs) J D) (all : ∀ x, x < G.length → x ∈ D) (hJ : ∀ x, x < m → juncAt J x = false)
    (hn : NwI ss os (D.filter (fun v => !juncAt J v)) ss.length nw) : PRI ss os (PR ++ nw) := by
  have nd : (D.filter (fun v => !juncAt J v)).Nodup := List.Nodup.sublist List.filter_sublist tr.nodup
  have bef : ∀ x y, y ∈ outs (chosen G cs) x → x < m → y < m → (D.filter (fun v => !juncAt J v)).idxOf x < (D.filter (fun v => !juncAt J v)).idxOf y := fun x y hxy hx hy => by
    obtain ⟨D1, D2, e, hm1⟩ := tr.befo (fun z hz => all z (by rw [chosen_len] at hz; exact hz)) hxy (by rw [chosen_len]; omega)
    exact befo_idx (befo_filter e hm1 (by simp [hJ x hx]) (by simp [hJ y hy])) nd
  have ok : ∀ p ∈ nw, ∃ (s : Sr) (o : Ob), ss[p.1]? = some s ∧ os[s.ob]? = some o ∧ p.2.1 ∈ o.wr ∧ p.2.1 ≠ s.wr ∧ ∃ t ∈ s.rd, t ≠ p.2.1 := fun p hp => by
    obtain ⟨_, s, o, j, e1, e2, e3, e4, e5, t, e6, e7⟩ := hn.snd p hp
    exact ⟨s, o, e1, e2, List.mem_of_getElem? e3, fun h => by rw [h] at e5; omega, t, e6, fun h => by rw [h] at e7; omega⟩
  refine ⟨?_, ?_⟩
  · rw [List.map_append, List.nodup_append]
    refine ⟨h.nd, hn.nd, fun a ha b hb e => ?_⟩
    subst e
    obtain ⟨p, hp, rfl⟩ := List.mem_map.mp ha
    obtain ⟨q, hq, hqe⟩ := List.mem_map.mp hb
    simp only [Prod.mk.injEq] at hqe
    obtain ⟨q1, q2⟩ := hqe
    obtain ⟨_, s, o, j, e1, e2, e3, e4, e5, t, e6, e7⟩ := hn.snd q hq
    rw [q1] at e1
    rw [q2] at e3 e5 e7
    obtain ⟨i, hi⟩ := List.getElem?_of_mem hp
    have hi2 : (PR.map (choOf ss))[i]? = some (choOf ss p) := by simp [hi]
    have hil : i < cs.length := by rw [hs.1]; have := (List.getElem?_eq_some_iff.mp hi2).1; exact this
    obtain ⟨C, hC⟩ := has_at cs hil
    obtain ⟨C0, f1, f2, f3⟩ := hs.2 i C hC
    rw [hi2] at f1; injection f1 with f1; subst f1
    have g2 : C.a0 = ⟨[p.2.1], s.wr⟩ := by rw [f2]; simp [choOf, e1, mkCho]
    have g3 : C.a1 = ⟨s.rd.filter (fun t => t != p.2.1), p.2.1⟩ := by rw [f3]; simp [choOf, e1, mkCho]
    have hu := (S.oo o (List.mem_of_getElem? e2)).1 _ (List.mem_of_getElem? e3)
    obtain ⟨a, b, _⟩   := S.sr s (List.mem_of_getElem? e1)
    have nwC := chosen_new cs G C
    by_cases ew : C.way = 0
    · have ea : altC C = ⟨[p.2.1], s.wr⟩ := by unfold altC; rw [if_pos ew, g2]
      have := bef p.2.1 s.wr (by have := nwC p.2.1 (List.mem_of_getElem? hC) (by rw [ea]; simp) (by omega); rw [ea] at this; exact this) hu a
      omega
    · have ea : altC C = ⟨s.rd.filter (fun t => t != p.2.1), p.2.1⟩ := by unfold altC; rw [if_neg ew, g3]
      have htn : t ≠ p.2.1 := fun h => by rw [h] at e7; omega
      have := bef t p.2.1 (by have := nwC t (List.mem_of_getElem? hC) (by rw [ea]; exact List.mem_filter.mpr ⟨e6, by simpa using htn⟩) (by have := b t e6; omega); rw [ea] at this; exact this) (b t e6) hu
      omega
  · intro p hp
    rcases List.mem_append.mp hp with hp | hp
    · exact h.ok p hp
    · exact ok p hp
theorem SameC.append {a b c : List Cho} (h : SameC a b) : SameC (a ++ c) (b ++ c) := by
  refine ⟨by simp [h.1], fun i C hC => ?_⟩
  by_cases hi : i < b.length
  · rw [List.getElem?_append_left hi] at hC
    obtain ⟨C0, e1, e2⟩ := h.2 i C hC
    exact ⟨C0, by rw [List.getElem?_append_left (by rw [← h.1]; exact hi)]; exact e1, e2⟩
  · rw [List.getElem?_append_right (by omega), h.1] at hC
    exact ⟨C, by rw [List.getElem?_append_right (by rw [← h.1]; omega)]; exact hC, rfl, rfl⟩
theorem choOf_way (ss : List Sr) (p : Nat × Nat × Nat) : (choOf ss p).way ≤ 1 := by
  unfold choOf
  split
  · simp only [mkCho]; split <;> omega
  · simp
theorem chosen_snoc (G : List (List Nat)) (cs : List Cho) (C : Cho) : chosen G (cs ++ [C]) = pickG (chosen G cs) (altC C) := by simp [chosen]
/-- What search gives. -/
def SchPost (d bN m : Nat) (G : List (List Nat)) (J : List Bool) (ss : List Sr) (os : List Ob) (w : World) : Ending → World → Prop := fun e w' =>
  Upd [d] w w' ∧ w'.cell? ⟨d, 0, none⟩ = some (.slice (some ⟨bN, 0, none⟩) m m) ∧
  ((∃ (b c : Nat) (K : List Nat), e = .returned (.tuple #[.slice (some ⟨b, 0, none⟩) K.length c, .bool false]) ∧ (K ≠ [] ∧ K.length ≤ 12) ∧ (∀ x ∈ K, x < m) ∧ Sl w' 3 1 (some ⟨b, 0, none⟩) K.length c [b] (K.map nI)) ∨
   ∃ (vP : SV) (P fP D : List Nat) (G' : List (List Nat)), e = .returned (.tuple #[.slice vP.a vP.n vP.c, .bool true]) ∧ Sl w' 3 1 vP.a vP.n vP.c fP (P.map nI) ∧ P = D.filter (fun v => !juncAt J v) ∧ Trace G' J D ∧ G'.length = G.length ∧ (∀ u, ∀ x ∈ outs G' u, x < G'.length) ∧ (∀ x y, y ∈ outs G x → y ∈ outs G' x) ∧ (∀ x, x < G.length → x ∈ D) ∧ NwI ss os P ss.length [])
end Go.Proofs.YbulkctquGreatFmt

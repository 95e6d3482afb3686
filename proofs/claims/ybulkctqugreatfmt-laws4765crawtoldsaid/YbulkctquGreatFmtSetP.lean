/-
  settle and choose, no Go in sight: the ways chosen close no cycle.
-/
import Derived.Test.YbulkctquGreatFmtChA
namespace Go.Proofs.YbulkctquGreatFmt
open Go.ChangeShapes Go.WideShapes Go.ChangeAt Go.RowKit Go.Ord
set_option linter.unusedVariables false

inductive RT (R : Nat → Nat → Prop) : Nat → Nat → Prop
  | refl {x : Nat} : RT R x x
  | step {x y z : Nat} : R x y → RT R y z → RT R x z
def NoCyc (R : Nat → Nat → Prop) : Prop := ∀ x y, R x y → ¬ RT R y x
def altC (C : Cho) : Alt := if C.way = 0 then C.a0 else C.a1
/-- The arcs inside the label L: the forced ones and those of the ways chosen. -/
def RL (G : List (List Nat)) (cmp : List Int) (cs : List Cho) (L : Int) (x y : Nat) : Prop := cmp[x]? = some L ∧ cmp[y]? = some L ∧ (y ∈ outs G x ∨ ∃ (c : Nat) (C : Cho), cs[c]? = some C ∧ cmp[C.a0.i]? = some L ∧ x ∈ (altC C).f ∧ y = (altC C).i)
theorem built_old (ws : List (Alt × Alt)) : ∀ (tr : List Stp) (B : List (List Nat)) (x y : Nat), y ∈ outs B x → y ∈ outs (built ws B tr) x
  | [], B, x, y, h => h
  | s :: tr, B, x, y, h => built_old ws tr (pickG B (altOf ws s.c s.w)) x y (pick_of _ _ _ _ _ h)
theorem built_arc (ws : List (Alt × Alt)) : ∀ (tr : List Stp) (B : List (List Nat)) (s : Stp) (t : Nat), s ∈ tr → t ∈ (altOf ws s.c s.w).f → t < B.length → (altOf ws s.c s.w).i ∈ outs (built ws B tr) t
  | [], B, s, t, h, _, _ => by simp at h
  | s' :: tr, B, s, t, h, ht, hl => by
    simp only [List.mem_cons] at h
    rcases h with rfl | h
    · exact built_old ws tr _ _ _ (pick_new _ _ _ _ ht hl)
    · exact built_arc ws tr (pickG B (altOf ws s'.c s'.w)) s t h ht (by rw [pick_len]; exact hl)
/-- The graph of one label in numbers of its own. -/
structure Loc (G B : List (List Nat)) (cmp : List Int) (L : Int) (mem : List Nat) : Prop where
  nd : mem.Nodup
  mm : ∀ v, v ∈ mem ↔ cmp[v]? = some L
  len : B.length = mem.length
  snd : ∀ i j, j ∈ outs B i → ∃ v u, mem[i]? = some v ∧ mem[j]? = some u ∧ u ∈ outs G v
  com : ∀ v u, v ∈ mem → u ∈ mem → u ∈ outs G v → mem.idxOf u ∈ outs B (mem.idxOf v)
theorem at_ix {P : List Nat} {x : Nat} (h : x ∈ P) : P[P.idxOf x]? = some x := by
  rw [List.getElem?_eq_getElem (List.idxOf_lt_length_iff.mpr h)]; simp
theorem Loc.acy {G B : List (List Nat)} {cmp : List Int} {L : Int} {mem : List Nat} (h : Loc G B cmp L mem) (hA : Acy G) : Acy B := by
  have key : ∀ a b, Rch B a b → ∀ v, mem[a]? = some v → ∃ u, mem[b]? = some u ∧ Rch G v u := by
    intro a b hab
    unfold Rch at hab
    induction hab with
    | refl _ => intro v hv; exact ⟨v, hv, Rch.refl v⟩
    | @step x y z _ hm _ ih =>
      intro v hv
      obtain ⟨v', u', h1, h2, h3⟩ := h.snd x y hm
      rw [hv] at h1; injection h1 with h1; subst h1
      obtain ⟨u, h4, h5⟩ := ih u' h2
      exact ⟨u, h4, Rch.cons h3 h5⟩
  intro x y hm hp
  obtain ⟨v, u, h1, h2, h3⟩ := h.snd x y hm
  obtain ⟨v', h4, h5⟩ := key y x hp u h2
  rw [h1] at h4; injection h4 with h4; subst h4
  exact hA v u h3 h5
def locA (mem : List Nat) (A : Alt) : Alt := ⟨A.f.map mem.idxOf, mem.idxOf A.i⟩
def choAt (cs : List Cho) (c : Nat) : Cho := (cs[c]?).getD ⟨⟨[], 0⟩, ⟨[], 0⟩, 0⟩
def wsL (cs : List Cho) (mem grp : List Nat) : List (Alt × Alt) := grp.map (fun c => (locA mem (choAt cs c).a0, locA mem (choAt cs c).a1))
theorem wsL_at {cs : List Cho} {mem grp : List Nat} {i c : Nat} {C : Cho} (hi : grp[i]? = some c) (hc : cs[c]? = some C) (v : Nat) : altOf (wsL cs mem grp) i v = locA mem (if v = 0 then C.a0 else C.a1) := by
  have : choAt cs c = C := by simp [choAt, hc]
  simp only [altOf, wsL, List.getElem?_map, hi, Option.map_some, this]
  split <;> rfl
theorem TS.all {ws : List (Alt × Alt)} {B G : List (List Nat)} {ch : List Int} {tr : List Stp} (h : TS ws B G ch tr) (hl : tr.length = ws.length) {c : Nat} (hc : c < ws.length) : ∃ s ∈ tr, s.c = c ∧ ch[c]? = some (s.w : Int) := by
  rcases h.val hc with ⟨h1, _⟩ | h1
  · have h2 := h.cn
    have h3 : 0 < ch.countP (fun x => x == -1) := List.countP_pos_iff.mpr ⟨-1, List.mem_of_getElem? h1, by simp⟩
    omega
  · exact h1
theorem settled {G B G' : List (List Nat)} {cmp : List Int} {L : Int} {mem grp : List Nat} {cs cs' : List Cho} {ch : List Int} {tr : List Stp} (h : Loc G B cmp L mem) (hA : Acy G)
    (gm : ∀ c C, cs[c]? = some C → cmp[C.a0.i]? = some L → c ∈ grp) (hin : ∀ (c : Nat) (C : Cho), cs[c]? = some C → cmp[C.a0.i]? = some L → (∀ t ∈ C.a0.f, t ∈ mem) ∧ (∀ t ∈ C.a1.f, t ∈ mem) ∧ C.a0.i ∈ mem ∧ C.a1.i ∈ mem)
    (hts : TS (wsL cs mem grp) B G' ch tr) (htl : tr.length = (wsL cs mem grp).length)
    (hcs : ∀ (c : Nat) (C : Cho), cs'[c]? = some C → ∃ C0, cs[c]? = some C0 ∧ C.a0 = C0.a0 ∧ C.a1 = C0.a1 ∧ ∀ i : Nat, grp[i]? = some c → ch[i]? = some (C.way : Int)) : NoCyc (RL G cmp cs' L) := by
  have hB := hts.acy (h.acy hA)
  have arc : ∀ x y, RL G cmp cs' L x y → mem.idxOf y ∈ outs G' (mem.idxOf x) := by
    rintro x y ⟨hx, hy, ho⟩
    have mx := (h.mm x).mpr hx
    have my := (h.mm y).mpr hy
    rw [hts.gq]
    rcases ho with ho | ⟨c, C, hc, hl, hxf, hyi⟩
    · exact built_old _ _ _ _ _ (h.com x y mx my ho)
    · obtain ⟨C0, h0, e0, e1, hw⟩ := hcs c C hc
      rw [e0] at hl
      have hg := gm c C0 h0 hl
      obtain ⟨i, hi⟩ := List.getElem?_of_mem hg
      have hil : i < (wsL cs mem grp).length := by
        have := (List.getElem?_eq_some_iff.mp hi).1
        simpa [wsL] using this
      obtain ⟨s, hs1, hs2, hs3⟩ := hts.all htl hil
      have hcw := hw i hi
      rw [hs3] at hcw
      injection hcw with hcw
      have hsw : s.w = C.way := by omega
      have ea : altOf (wsL cs mem grp) s.c s.w = locA mem (altC C) := by
        rw [hs2, wsL_at hi h0, hsw]
        unfold altC
        rw [e0, e1]
      have := built_arc (wsL cs mem grp) tr B s (mem.idxOf x) hs1 (by rw [ea]; exact List.mem_map_of_mem hxf) (by rw [h.len]; exact List.idxOf_lt_length_iff.mpr mx)
      rw [ea] at this
      rw [hyi]
      exact this
  have path : ∀ x y, RT (RL G cmp cs' L) x y → Rch G' (mem.idxOf x) (mem.idxOf y) := by
    intro x y hxy
    induction hxy with
    | refl => exact Rch.refl _
    | step h1 _ ih => exact Rch.cons (arc _ _ h1) ih
  intro x y hxy hp
  exact hB _ _ (arc x y hxy) (path y x hp)
def chosen (G : List (List Nat)) (cs : List Cho) : List (List Nat) := cs.foldl (fun G C => pickG G (altC C)) G
theorem chosen_mem : ∀ (cs : List Cho) (G : List (List Nat)) (x y : Nat), y ∈ outs (chosen G cs) x → y ∈ outs G x ∨ ∃ C ∈ cs, x ∈ (altC C).f ∧ y = (altC C).i
  | [], G, x, y, h => .inl h
  | C :: cs, G, x, y, h => by
    rcases chosen_mem cs (pickG G (altC C)) x y h with h1 | ⟨D, h1, h2⟩
    · rcases pick_mem _ _ _ _ _ h1 with h3 | h3
      · exact .inl h3
      · exact .inr ⟨C, by simp, h3⟩
    · exact .inr ⟨D, by simp [h1], h2⟩
theorem chosen_old : ∀ (cs : List Cho) (G : List (List Nat)) (x y : Nat), y ∈ outs G x → y ∈ outs (chosen G cs) x
  | [], G, x, y, h => h
  | C :: cs, G, x, y, h => chosen_old cs (pickG G (altC C)) x y (pick_of _ _ _ _ _ h)
theorem chosen_len : ∀ (cs : List Cho) (G : List (List Nat)), (chosen G cs).length = G.length
  | [], G => rfl
  | C :: cs, G => by rw [show chosen G (C :: cs) = chosen (pickG G (altC C)) cs from rfl, chosen_len cs, pick_len]
theorem chosen_new : ∀ (cs : List Cho) (G : List (List Nat)) (C : Cho) (t : Nat), C ∈ cs → t ∈ (altC C).f → t < G.length → (altC C).i ∈ outs (chosen G cs) t
  | [], G, C, t, h, _, _ => by simp at h
  | D :: cs, G, C, t, h, ht, hl => by
    simp only [List.mem_cons] at h
    rcases h with rfl | h
    · exact chosen_old cs _ _ _ (pick_new _ _ _ _ ht hl)
    · exact chosen_new cs (pickG G (altC D)) C t h ht (by rw [pick_len]; exact hl)
/-- Each choice lies within one label. -/
def ChIn (cmp : List Int) (C : Cho) : Prop := ∃ L : Int, cmp[C.a0.i]? = some L ∧ cmp[C.a1.i]? = some L ∧ (∀ t ∈ C.a0.f, cmp[t]? = some L) ∧ ∀ t ∈ C.a1.f, cmp[t]? = some L
theorem chosen_acy {G : List (List Nat)} {cmp : List Int} {cs : List Cho} (hA : Acy G) (hG : ∀ u x, x ∈ outs G u → ∃ a b : Int, cmp[u]? = some a ∧ cmp[x]? = some b ∧ b ≤ a) (hC : ∀ C ∈ cs, ChIn cmp C)
    (hN : ∀ L : Int, (∃ (c : Nat) (C : Cho), cs[c]? = some C ∧ cmp[C.a0.i]? = some L) → NoCyc (RL G cmp cs L)) : Acy (chosen G cs) := by
  have inAlt : ∀ C ∈ cs, ∃ L : Int, cmp[C.a0.i]? = some L ∧ cmp[(altC C).i]? = some L ∧ ∀ t ∈ (altC C).f, cmp[t]? = some L := by
    intro C hm
    obtain ⟨L, h1, h2, h3, h4⟩ := hC C hm
    refine ⟨L, h1, ?_⟩
    unfold altC
    split
    · exact ⟨h1, h3⟩
    · exact ⟨h2, h4⟩
  have NC : ∀ L : Int, NoCyc (RL G cmp cs L) := by
    intro L
    by_cases e : ∃ (c : Nat) (C : Cho), cs[c]? = some C ∧ cmp[C.a0.i]? = some L
    · exact hN L e
    · have one : ∀ x y, RL G cmp cs L x y → y ∈ outs G x := by
        rintro x y ⟨_, _, h | ⟨c, C, h1, h2, _⟩⟩
        · exact h
        · exact absurd ⟨c, C, h1, h2⟩ e
      have path : ∀ x y, RT (RL G cmp cs L) x y → Rch G x y := by
        intro x y hxy
        induction hxy with
        | refl => exact Rch.refl _
        | step h1 _ ih => exact Rch.cons (one _ _ h1) ih
      intro x y hxy hp
      exact hA x y (one x y hxy) (path y x hp)
  have lab : ∀ x y, y ∈ outs (chosen G cs) x → ∃ a b : Int, cmp[x]? = some a ∧ cmp[y]? = some b ∧ b ≤ a := by
    intro x y hy
    rcases chosen_mem cs G x y hy with h1 | ⟨C, h1, h2, h3⟩
    · exact hG x y h1
    · obtain ⟨L, _, h5, h6⟩ := inAlt C h1
      exact ⟨L, L, h6 x h2, by rw [h3]; exact h5, Int.le_refl _⟩
  have rl : ∀ (L : Int) x y, y ∈ outs (chosen G cs) x → cmp[x]? = some L → cmp[y]? = some L → RL G cmp cs L x y := by
    intro L x y hy hx hyL
    rcases chosen_mem cs G x y hy with h1 | ⟨C, h1, h2, h3⟩
    · exact ⟨hx, hyL, .inl h1⟩
    · obtain ⟨L', h4, h5, h6⟩ := inAlt C h1
      have := h6 x h2
      rw [hx] at this; injection this with this; subst this
      obtain ⟨c, hc⟩ := List.getElem?_of_mem h1
      exact ⟨hx, hyL, .inr ⟨c, C, hc, h4, h2, h3⟩⟩
  have down : ∀ x y, Rch (chosen G cs) x y → ∀ a : Int, cmp[x]? = some a → ∃ b : Int, cmp[y]? = some b ∧ b ≤ a := by
    intro x y hxy
    unfold Rch at hxy
    induction hxy with
    | refl _ => intro a ha; exact ⟨a, ha, Int.le_refl _⟩
    | step _ hm _ ih =>
      intro a ha
      obtain ⟨a', b', h1, h2, h3⟩ := lab _ _ hm
      rw [ha] at h1; injection h1 with h1; subst h1
      obtain ⟨b, h4, h5⟩ := ih b' h2
      exact ⟨b, h4, by omega⟩
  have inL : ∀ (L : Int) x y, Rch (chosen G cs) x y → cmp[x]? = some L → cmp[y]? = some L → RT (RL G cmp cs L) x y := by
    intro L x y hxy
    unfold Rch at hxy
    induction hxy with
    | refl _ => intro _ _; exact .refl
    | @step x y z _ hm hp ih =>
      intro hx hz
      obtain ⟨a, b, h1, h2, h3⟩ := lab x y hm
      rw [hx] at h1; injection h1 with h1; subst h1
      obtain ⟨c, h4, h5⟩ := down y z hp b h2
      rw [hz] at h4; injection h4 with h4
      have e : b = L := by omega
      subst e
      exact .step (rl _ x y hm hx h2) (ih h2 hz)
  intro x y hm hp
  obtain ⟨a, b, h1, h2, h3⟩ := lab x y hm
  obtain ⟨c, h4, h5⟩ := down y x hp b h2
  rw [h1] at h4; injection h4 with h4
  have e : b = a := by omega
  subst e
  exact NC b x y (rl b x y hm h1 h2) (inL b y x hp h2 h1)
end Go.Proofs.YbulkctquGreatFmt

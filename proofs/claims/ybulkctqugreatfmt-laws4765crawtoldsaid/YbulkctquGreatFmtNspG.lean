/-
  A polygraph in memory.
-/
import Derived.Test.YbulkctquGreatFmtNspE
namespace Go.Proofs.YbulkctquGreatFmt
open Go.ChangeShapes Go.WideShapes Go.ChangeAt Go.RowKit Go.Ord
set_option linter.unusedVariables false

theorem Gr.setOther {w : World} {d o : Nat} {g : GG} {G : List (List Nat)} {J : List Bool} (h : Gr w d o g G J) {j : Nat} {u : Value} (hj : g.kc j = some u) (v : Value) : Gr (w.setCell ⟨d, j, none⟩ v) d o { g with kc := fun i => if i = j then some v else g.kc i } G J := by
  have hu := Upd.store w d j v
  have nd := h.nd
  simp only [List.nodup_cons] at nd
  obtain ⟨n1, n2, n3, n4⟩ := h.oth j u hj
  have hf : ∀ k ∈ g.foot, k ∉ [d] := fun k hk hm => by simp at hm; subst hm; exact nd.1 hk
  refine ⟨set_other h.cS (.inr n1), set_other h.cJ (.inr n2), set_free h.zS, set_free h.zJ, h.sS.keep hu (fun k hk => hf k (by simp [GG.foot, hk])), h.sJ.keep hu (fun k hk => hf k (by simp [GG.foot, hk])), h.lI, ?_, h.nd, ?_⟩
  · intro i s f r hs hf' hr
    obtain ⟨h3, h4⟩ := h.sI i s f r hs hf' hr
    refine ⟨h3, h4.keep hu (fun k hk => hf k ?_)⟩
    simp only [GG.foot, List.mem_append, List.mem_flatten]
    exact .inr (.inr ⟨f, List.mem_of_getElem? hf', hk⟩)
  · intro i x hx
    by_cases e : i = j
    · subst e
      simp at hx
      subst hx
      exact ⟨n1, n2, set_same n3, set_free n4⟩
    · simp [e] at hx
      obtain ⟨m1, m2, m3, m4⟩ := h.oth i x hx
      exact ⟨m1, m2, set_other m3 (.inr (Ne.symm e)), set_free m4⟩
def polyFp (d : Nat) (g : GG) (sg : SG) (og : OG) : List Nat := d :: (g.foot ++ (sg.foot ++ og.foot))
/-- The polygraph at block d. -/
structure Poly (d bN bF m : Nat) (g : GG) (G : List (List Nat)) (J : List Bool) (sg : SG) (ss : List Sr) (og : OG) (os : List Ob) (w : World) : Prop where
  gr : Gr w d 2 g G J
  sr : Srcs w sg ss
  ob : Objs w og os
  kc : g.kc = kc0 bN bF m (.slice sg.a ss.length sg.c) (.slice og.a os.length og.c)
  nd : (polyFp d g sg og).Nodup
theorem Poly.keeps (d bN bF m : Nat) (g : GG) (G : List (List Nat)) (J : List Bool) (sg : SG) (ss : List Sr) (og : OG) (os : List Ob) : Keeps (polyFp d g sg og) (Poly d bN bF m g G J sg ss og os) := by
  intro w w' S h hu hS
  refine ⟨h.gr.keep hu (hS d (by simp [polyFp])) (fun k hk => hS k (by simp [polyFp, hk])), h.sr.keep hu (fun k hk => hS k (by simp [polyFp, hk])), h.ob.keep hu (fun k hk => hS k (by simp [polyFp, hk])), h.kc, h.nd⟩
section
variable {d bN bF m : Nat} {g : GG} {G : List (List Nat)} {J : List Bool} {sg : SG} {ss : List Sr} {og : OG} {os : List Ob} {w : World}
theorem Poly.lt (h : Poly d bN bF m g G J sg ss og os w) : ∀ k ∈ polyFp d g sg og, k < w.heap.size := by
  intro k hk
  simp only [polyFp, List.mem_cons, List.mem_append] at hk
  rcases hk with rfl | hk | hk | hk
  · exact h.gr.lt
  · exact h.gr.footLt k hk
  · exact h.sr.lt k hk
  · exact h.ob.lt k hk
theorem Poly.cell (h : Poly d bN bF m g G J sg ss og os w) {j : Nat} {v : Value} (hj : kc0 bN bF m (.slice sg.a ss.length sg.c) (.slice og.a os.length og.c) j = some v) : w.cell? ⟨d, j, none⟩ = some v ∧ w.frozen? ⟨d, j, none⟩ = false := by
  rw [← h.kc] at hj
  exact ⟨(h.gr.oth j v hj).2.2.1, (h.gr.oth j v hj).2.2.2⟩
theorem nodup_new {d : Nat} {a b c a' b' c' : List Nat} {n : Nat} (h : (d :: (a ++ (b ++ c))).Nodup) (hlt : ∀ k ∈ d :: (a ++ (b ++ c)), k < n) (ha : a'.Nodup) (hb : b'.Nodup) (hc : c'.Nodup) (ia : ∀ k ∈ a', k ∈ a ∨ n ≤ k) (ib : ∀ k ∈ b', k ∈ b) (ic : ∀ k ∈ c', k ∈ c) : (d :: (a' ++ (b' ++ c'))).Nodup := by
  simp only [List.nodup_cons, List.nodup_append, List.mem_append, not_or] at h ⊢
  simp only [List.mem_cons, List.mem_append] at hlt
  refine ⟨⟨fun hm => ?_, fun hm => h.1.2.1 (ib d hm), fun hm => h.1.2.2 (ic d hm)⟩, ha, ⟨hb, hc, fun x hx y hy => h.2.2.1.2.2 x (ib x hx) y (ic y hy)⟩, fun x hx y hy e => ?_⟩
  · rcases ia d hm with z | z
    · exact h.1.1 z
    · have := hlt d (.inl rfl); omega
  · subst e
    rcases ia x hx with z | z
    · rcases hy with hy | hy
      · exact h.2.2.2 x z x (.inl (ib x hy)) rfl
      · exact h.2.2.2 x z x (.inr (ic x hy)) rfl
    · rcases hy with hy | hy
      · have := hlt x (.inr (.inr (.inl (ib x hy)))); omega
      · have := hlt x (.inr (.inr (.inr (ic x hy)))); omega
/-- One more arc. -/
theorem Poly.arc (h : Poly d bN bF m g G J sg ss og os w) {w' : World} {g' : GG} {G' : List (List Nat)} (h1 : Gr w' d 2 g' G' J) (h2 : Grew d w w' g g') : Poly d bN bF m g' G' J sg ss og os w' ∧ Upd (polyFp d g sg og) w w' ∧ ∀ k ∈ polyFp d g' sg og, (k ∈ polyFp d g sg og ∨ w.heap.size ≤ k) ∧ k < w'.heap.size := by
  have nd := h.nd
  have nd' := nd
  simp only [polyFp, List.nodup_cons, List.nodup_append, List.mem_append, not_or] at nd'
  have s1 := h.sr.keep h2.upd (fun k hk hm => by
    simp only [List.mem_cons] at hm
    rcases hm with hm | hm
    · subst hm; exact nd'.1.2.1 hk
    · exact nd'.2.2.2 k hm k (.inl hk) rfl)
  have o1 := h.ob.keep h2.upd (fun k hk hm => by
    simp only [List.mem_cons] at hm
    rcases hm with hm | hm
    · subst hm; exact nd'.1.2.2 hk
    · exact nd'.2.2.2 k hm k (.inr hk) rfl)
  have p : Poly d bN bF m g' G' J sg ss og os w' := ⟨h1, s1, o1, h2.kc.trans h.kc, nodup_new nd h.lt (List.nodup_cons.mp h1.nd).2 h.sr.nd h.ob.nd h2.foot (fun k hk => hk) (fun k hk => hk)⟩
  refine ⟨p, h2.upd.mono (fun k hk => .inl (by simp only [List.mem_cons] at hk; simp only [polyFp, List.mem_cons, List.mem_append]; rcases hk with hk | hk; exact .inl hk; exact .inr (.inl hk))), fun k hk => ⟨?_, p.lt k hk⟩⟩
  simp only [polyFp, List.mem_cons, List.mem_append] at hk ⊢
  rcases hk with hk | hk | hk
  · exact .inl (.inl hk)
  · rcases h2.foot k hk with z | z
    · exact .inl (.inr (.inl z))
    · exact .inr z
  · exact .inl (.inr (.inr hk))
theorem nodup_newB {d : Nat} {a b c b' : List Nat} {n : Nat} (h : (d :: (a ++ (b ++ c))).Nodup) (hlt : ∀ k ∈ d :: (a ++ (b ++ c)), k < n) (hb : b'.Nodup) (ib : ∀ k ∈ b', k ∈ b ∨ n ≤ k) : (d :: (a ++ (b' ++ c))).Nodup := by
  simp only [List.nodup_cons, List.nodup_append, List.mem_append, not_or] at h ⊢
  simp only [List.mem_cons, List.mem_append] at hlt
  refine ⟨⟨h.1.1, fun hm => ?_, h.1.2.2⟩, h.2.1, ⟨hb, h.2.2.1.2.1, fun x hx y hy e => ?_⟩, fun x hx y hy e => ?_⟩
  · rcases ib d hm with z | z
    · exact h.1.2.1 z
    · have := hlt d (.inl rfl); omega
  · subst e
    rcases ib x hx with z | z
    · exact h.2.2.1.2.2 x z x hy rfl
    · have := hlt x (.inr (.inr (.inr hy))); omega
  · subst e
    rcases hy with hy | hy
    · rcases ib x hy with z | z
      · exact h.2.2.2 x hx x (.inl z) rfl
      · have := hlt x (.inr (.inl hx)); omega
    · exact h.2.2.2 x hx x (.inr hy) rfl
theorem nodup_newC {d : Nat} {a b c c' : List Nat} {n : Nat} (h : (d :: (a ++ (b ++ c))).Nodup) (hlt : ∀ k ∈ d :: (a ++ (b ++ c)), k < n) (hc : c'.Nodup) (ic : ∀ k ∈ c', k ∈ c ∨ n ≤ k) : (d :: (a ++ (b ++ c'))).Nodup := by
  simp only [List.nodup_cons, List.nodup_append, List.mem_append, not_or] at h ⊢
  simp only [List.mem_cons, List.mem_append] at hlt
  refine ⟨⟨h.1.1, h.1.2.1, fun hm => ?_⟩, h.2.1, ⟨h.2.2.1.1, hc, fun x hx y hy e => ?_⟩, fun x hx y hy e => ?_⟩
  · rcases ic d hm with z | z
    · exact h.1.2.2 z
    · have := hlt d (.inl rfl); omega
  · subst e
    rcases ic x hy with z | z
    · exact h.2.2.1.2.2 x hx x z rfl
    · have := hlt x (.inr (.inr (.inl hx))); omega
  · subst e
    rcases hy with hy | hy
    · exact h.2.2.2 x hx x (.inl hy) rfl
    · rcases ic x hy with z | z
      · exact h.2.2.2 x hx x (.inr z) rfl
      · have := hlt x (.inr (.inl hx)); omega
theorem kc0_4 (bN bF m : Nat) (vS vO v : Value) : (fun i => if i = 4 then some v else kc0 bN bF m vS vO i) = kc0 bN bF m v vO := by
  funext i
  unfold kc0
  by_cases h0 : i = 0
  · simp [h0]
  · by_cases h1 : i = 1
    · simp [h1]
    · by_cases h4 : i = 4 <;> simp [h0, h1, h4]
theorem kc0_5 (bN bF m : Nat) (vS vO v : Value) : (fun i => if i = 5 then some v else kc0 bN bF m vS vO i) = kc0 bN bF m vS v := by
  funext i
  unfold kc0
  by_cases h0 : i = 0
  · simp [h0]
  · by_cases h1 : i = 1
    · simp [h1]
    · by_cases h4 : i = 4
      · simp [h4]
      · by_cases h5 : i = 5 <;> simp [h0, h1, h4, h5]
/-- A row of an object grows. -/
theorem Poly.objPut (h : Poly d bN bF m g G J sg ss og os w) {w' : World} {og' : OG} {os' : List Ob} (h1 : Objs w' og' os') (ha : og'.a = og.a) (hc : og'.c = og.c) (hl : os'.length = os.length) (hu : Upd og.foot w w') (hf : ∀ k ∈ og'.foot, k ∈ og.foot ∨ w.heap.size ≤ k) :
    Poly d bN bF m g G J sg ss og' os' w' ∧ Upd (polyFp d g sg og) w w' ∧ ∀ k ∈ polyFp d g sg og', (k ∈ polyFp d g sg og ∨ w.heap.size ≤ k) ∧ k < w'.heap.size := by
  have nd := h.nd
  have nd' := nd
  simp only [polyFp, List.nodup_cons, List.nodup_append, List.mem_append, not_or] at nd'
  have g1 := h.gr.keep hu (fun hm => nd'.1.2.2 hm) (fun k hk hm => nd'.2.2.2 k hk k (.inr hm) rfl)
  have s1 := h.sr.keep hu (fun k hk hm => nd'.2.2.1.2.2 k hk k hm rfl)
  have p : Poly d bN bF m g G J sg ss og' os' w' := ⟨g1, s1, h1, by rw [ha, hc, hl]; exact h.kc, nodup_newC nd h.lt h1.nd hf⟩
  refine ⟨p, hu.mono (fun k hk => .inl (by simp [polyFp, hk])), fun k hk => ⟨?_, p.lt k hk⟩⟩
  simp only [polyFp, List.mem_cons, List.mem_append] at hk ⊢
  rcases hk with hk | hk | hk | hk
  · exact .inl (.inl hk)
  · exact .inl (.inr (.inl hk))
  · exact .inl (.inr (.inr (.inl hk)))
  · rcases hf k hk with z | z
    · exact .inl (.inr (.inr (.inr z)))
    · exact .inr z
/-- A source's readers grow. -/
theorem Poly.srPut (h : Poly d bN bF m g G J sg ss og os w) {w' : World} {sg' : SG} {ss' : List Sr} (h1 : Srcs w' sg' ss') (ha : sg'.a = sg.a) (hc : sg'.c = sg.c) (hl : ss'.length = ss.length) (hu : Upd sg.foot w w') (hf : ∀ k ∈ sg'.foot, k ∈ sg.foot ∨ w.heap.size ≤ k) :
    Poly d bN bF m g G J sg' ss' og os w' ∧ Upd (polyFp d g sg og) w w' ∧ ∀ k ∈ polyFp d g sg' og, (k ∈ polyFp d g sg og ∨ w.heap.size ≤ k) ∧ k < w'.heap.size := by
  have nd := h.nd
  have nd' := nd
  simp only [polyFp, List.nodup_cons, List.nodup_append, List.mem_append, not_or] at nd'
  have g1 := h.gr.keep hu (fun hm => nd'.1.2.1 hm) (fun k hk hm => nd'.2.2.2 k hk k (.inl hm) rfl)
  have o1 := h.ob.keep hu (fun k hk hm => nd'.2.2.1.2.2 k hm k hk rfl)
  have p : Poly d bN bF m g G J sg' ss' og os w' := ⟨g1, h1, o1, by rw [ha, hc, hl]; exact h.kc, nodup_newB nd h.lt h1.nd hf⟩
  refine ⟨p, hu.mono (fun k hk => .inl (by simp [polyFp, hk])), fun k hk => ⟨?_, p.lt k hk⟩⟩
  simp only [polyFp, List.mem_cons, List.mem_append] at hk ⊢
  rcases hk with hk | hk | hk | hk
  · exact .inl (.inl hk)
  · exact .inl (.inr (.inl hk))
  · rcases hf k hk with z | z
    · exact .inl (.inr (.inr (.inl z)))
    · exact .inr z
  · exact .inl (.inr (.inr (.inr hk)))
/-- One more object. -/
theorem Poly.objNew (h : Poly d bN bF m g G J sg ss og os w) {w1 : World} {b c : Nat} (s1 : Sl w1 139 3 (some ⟨b, 0, none⟩) (os.length + 1) c [b] (og.vs.map SV.val ++ [.slice none 0 0, .slice none 0 0, .slice none 0 0])) (U : Upd og.fO w w1) (F : b ∈ og.fO ∨ w.heap.size ≤ b) :
    ∃ g' og', Poly d bN bF m g' G J sg ss og' (os ++ [⟨[], [], []⟩]) (w1.setCell ⟨d, 5, none⟩ (.slice (some ⟨b, 0, none⟩) (os.length + 1) c)) ∧ Upd (polyFp d g sg og) w (w1.setCell ⟨d, 5, none⟩ (.slice (some ⟨b, 0, none⟩) (os.length + 1) c)) ∧ ∀ k ∈ polyFp d g' sg og', (k ∈ polyFp d g sg og ∨ w.heap.size ≤ k) ∧ k < (w1.setCell ⟨d, 5, none⟩ (.slice (some ⟨b, 0, none⟩) (os.length + 1) c)).heap.size := by
  have nd := h.nd
  have nd' := nd
  simp only [polyFp, List.nodup_cons, List.nodup_append, List.mem_append, not_or] at nd'
  have inO : ∀ k ∈ og.fO, k ∈ og.foot := fun k hk => by simp [OG.foot, hk]
  obtain ⟨og', o1, oa, oc, of⟩ := h.ob.grow s1 U F
  have g1 := h.gr.keep U (fun hm => nd'.1.2.2 (inO _ hm)) (fun k hk hm => nd'.2.2.2 k hk k (.inr (inO _ hm)) rfl)
  have s2 := h.sr.keep U (fun k hk hm => nd'.2.2.1.2.2 k hk k (inO _ hm) rfl)
  have hst := Upd.store w1 d 5 (.slice (some ⟨b, 0, none⟩) (os.length + 1) c)
  have g2 := g1.setOther (j := 5) (u := .slice og.a os.length og.c) (by rw [h.kc]; rfl) (.slice (some ⟨b, 0, none⟩) (os.length + 1) c)
  have hd := h.gr.lt
  have hdo : d ∉ og'.foot := fun hm => by
    rcases of d hm with z | z
    · exact nd'.1.2.2 z
    · omega
  have p : Poly d bN bF m _ G J sg ss og' (os ++ [⟨[], [], []⟩]) (w1.setCell ⟨d, 5, none⟩ (.slice (some ⟨b, 0, none⟩) (os.length + 1) c)) := ⟨g2, s2.keep hst (fun k hk hm => by simp at hm; subst hm; exact nd'.1.2.1 hk), o1.keep hst (fun k hk hm => by simp at hm; subst hm; exact hdo hk), by rw [oa, oc]; simp only [List.length_append, List.length_singleton]; rw [h.kc]; exact kc0_5 _ _ _ _ _ _, nodup_newC nd h.lt o1.nd of⟩
  refine ⟨_, og', p, (U.mono (fun k hk => .inl (by simp [polyFp, inO k hk]))).trans hst (fun k hk => .inl (by simp at hk; simp [polyFp, hk])), fun k hk => ⟨?_, p.lt k hk⟩⟩
  simp only [polyFp, List.mem_cons, List.mem_append] at hk ⊢
  rcases hk with hk | hk | hk | hk
  · exact .inl (.inl hk)
  · exact .inl (.inr (.inl hk))
  · exact .inl (.inr (.inr (.inl hk)))
  · rcases of k hk with z | z
    · exact .inl (.inr (.inr (.inr z)))
    · exact .inr z
/-- One more source. -/
theorem Poly.srNew (h : Poly d bN bF m g G J sg ss og os w) {s : Sr} (hs : s.rd = []) {w1 : World} {b c : Nat} (s1 : Sl w1 142 4 (some ⟨b, 0, none⟩) (ss.length + 1) c [b] ((ss.zip sg.vs).flatMap srCells ++ [nI s.ob, nI s.wr, nI s.rk, .slice none 0 0])) (U : Upd sg.fO w w1) (F : b ∈ sg.fO ∨ w.heap.size ≤ b) :
    ∃ g' sg', Poly d bN bF m g' G J sg' (ss ++ [s]) og os (w1.setCell ⟨d, 4, none⟩ (.slice (some ⟨b, 0, none⟩) (ss.length + 1) c)) ∧ Upd (polyFp d g sg og) w (w1.setCell ⟨d, 4, none⟩ (.slice (some ⟨b, 0, none⟩) (ss.length + 1) c)) ∧ ∀ k ∈ polyFp d g' sg' og, (k ∈ polyFp d g sg og ∨ w.heap.size ≤ k) ∧ k < (w1.setCell ⟨d, 4, none⟩ (.slice (some ⟨b, 0, none⟩) (ss.length + 1) c)).heap.size := by
  have nd := h.nd
  have nd' := nd
  simp only [polyFp, List.nodup_cons, List.nodup_append, List.mem_append, not_or] at nd'
  have inO : ∀ k ∈ sg.fO, k ∈ sg.foot := fun k hk => by simp [SG.foot, hk]
  obtain ⟨sg', o1, oa, oc, of⟩ := h.sr.grow hs s1 U F
  have g1 := h.gr.keep U (fun hm => nd'.1.2.1 (inO _ hm)) (fun k hk hm => nd'.2.2.2 k hk k (.inl (inO _ hm)) rfl)
  have s2 := h.ob.keep U (fun k hk hm => nd'.2.2.1.2.2 k (inO _ hm) k hk rfl)
  have hst := Upd.store w1 d 4 (.slice (some ⟨b, 0, none⟩) (ss.length + 1) c)
  have g2 := g1.setOther (j := 4) (u := .slice sg.a ss.length sg.c) (by rw [h.kc]; rfl) (.slice (some ⟨b, 0, none⟩) (ss.length + 1) c)
  have hd := h.gr.lt
  have hdo : d ∉ sg'.foot := fun hm => by
    rcases of d hm with z | z
    · exact nd'.1.2.1 z
    · omega
  have p : Poly d bN bF m _ G J sg' (ss ++ [s]) og os (w1.setCell ⟨d, 4, none⟩ (.slice (some ⟨b, 0, none⟩) (ss.length + 1) c)) := ⟨g2, o1.keep hst (fun k hk hm => by simp at hm; subst hm; exact hdo hk), s2.keep hst (fun k hk hm => by simp at hm; subst hm; exact nd'.1.2.2 hk), by rw [oa, oc]; simp only [List.length_append, List.length_singleton]; rw [h.kc]; exact kc0_4 _ _ _ _ _ _, nodup_newB nd h.lt o1.nd of⟩
  refine ⟨_, sg', p, (U.mono (fun k hk => .inl (by simp [polyFp, inO k hk]))).trans hst (fun k hk => .inl (by simp at hk; simp [polyFp, hk])), fun k hk => ⟨?_, p.lt k hk⟩⟩
  simp only [polyFp, List.mem_cons, List.mem_append] at hk ⊢
  rcases hk with hk | hk | hk | hk
  · exact .inl (.inl hk)
  · exact .inl (.inr (.inl hk))
  · rcases of k hk with z | z
    · exact .inl (.inr (.inr (.inl z)))
    · exact .inr z
  · exact .inl (.inr (.inr (.inr hk)))
end
end Go.Proofs.YbulkctquGreatFmt

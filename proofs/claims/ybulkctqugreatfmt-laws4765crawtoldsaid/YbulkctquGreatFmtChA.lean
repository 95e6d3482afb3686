/-
  The choices in memory; the polygraph while search is at work.
-/
import Derived.Test.YbulkctquGreatFmtTgH
import Derived.Test.YbulkctquGreatFmtNspG
namespace Go.Proofs.YbulkctquGreatFmt
open Go.ChangeShapes Go.WideShapes Go.ChangeAt Go.RowKit Go.Ord
set_option linter.unusedVariables false

structure Cho where
  a0 : Alt
  a1 : Alt
  way : Nat
def chC (q : Cho × (SV × SV)) : List Value := [q.2.1.val, nI q.1.a0.i, q.2.2.val, nI q.1.a1.i, nI q.1.way]
/-- The choices: their row, and the rows of nodes, which are only read. -/
structure ChM (w : World) (v : SV) (fT fR : List Nat) (cs : List Cho) (vs : List (SV × SV)) : Prop where
  len : vs.length = cs.length
  n : v.n = cs.length
  top : Sl w 164 5 v.a v.n v.c fT ((cs.zip vs).flatMap chC)
  rows : ∀ (c : Nat) (C : Cho) (p : SV × SV), cs[c]? = some C → vs[c]? = some p → RowV fR w p.1 C.a0.f ∧ RowV fR w p.2 C.a1.f
  lt : ∀ k ∈ fR, k < w.heap.size
  nd : ∀ k ∈ fT, k ∉ fR
section
variable {w w' : World} {v : SV} {fT fR : List Nat} {cs : List Cho} {vs : List (SV × SV)}
theorem ChM.empty (w : World) : ChM w ⟨none, 0, 0⟩ [] [] [] [] := ⟨rfl, rfl, Sl.empty _ _ _, by simp, by simp, by simp⟩
theorem ChM.keep (h : ChM w v fT fR cs vs) {S : List Nat} (hu : Upd S w w') (h1 : ∀ k ∈ fT, k ∉ S) (h2 : ∀ k ∈ fR, k ∉ S) : ChM w' v fT fR cs vs :=
  ⟨h.len, h.n, h.top.keep hu h1, fun c C p hc hp => ⟨(h.rows c C p hc hp).1.keep hu h2, (h.rows c C p hc hp).2.keep hu h2⟩, fun k hk => Nat.lt_of_lt_of_le (h.lt k hk) hu.size, h.nd⟩
theorem ChM.at (h : ChM w v fT fR cs vs) {c : Nat} {C : Cho} (hc : cs[c]? = some C) : ∃ (bX : Nat) (s0 s1 : SV), v.a = some ⟨bX, 0, none⟩ ∧ fT = [bX] ∧ vs[c]? = some (s0, s1) ∧ w.cell? ⟨bX, c * 5, none⟩ = some (.slice s0.a s0.n s0.c) ∧ w.cell? ⟨bX, c * 5 + 1, none⟩ = some (.int .i64 C.a0.i) ∧ w.cell? ⟨bX, c * 5 + 2, none⟩ = some (.slice s1.a s1.n s1.c) ∧ w.cell? ⟨bX, c * 5 + 3, none⟩ = some (.int .i64 C.a1.i) ∧ w.cell? ⟨bX, c * 5 + 4, none⟩ = some (.int .i64 C.way) ∧ w.frozen? ⟨bX, c * 5 + 4, none⟩ = false ∧ RowV fR w s0 C.a0.f ∧ RowV fR w s1 C.a1.f := by
  have hl := (List.getElem?_eq_some_iff.mp hc).1
  obtain ⟨⟨s0, s1⟩, hp⟩ := has_at vs (k := c) (by rw [h.len]; exact hl)
  obtain ⟨bX, e1, e2, _, e3, e4⟩ := h.top.has (by rw [h.n]; omega)
  have hz : (cs.zip vs)[c]? = some (C, (s0, s1)) := by rw [List.getElem?_zip_eq_some]; exact ⟨hc, hp⟩
  have q := fun j (hj : j < 5) => flat3 chC 5 (fun _ => rfl) (cs.zip vs) c j (C, (s0, s1)) hz hj
  have hn := h.n
  obtain ⟨r1, r2⟩ := h.rows c C (s0, s1) hc hp
  refine ⟨bX, s0, s1, e1, e2, hp, ?_, ?_, ?_, ?_, ?_, e4 _, r1, r2⟩
  · rw [e3 (c * 5) (by omega)]; have := q 0 (by omega); rw [Nat.add_zero] at this; rw [this]; rfl
  · rw [e3 (c * 5 + 1) (by omega), q 1 (by omega)]; rfl
  · rw [e3 (c * 5 + 2) (by omega), q 2 (by omega)]; rfl
  · rw [e3 (c * 5 + 3) (by omega), q 3 (by omega)]; rfl
  · rw [e3 (c * 5 + 4) (by omega), q 4 (by omega)]; rfl
theorem flat_set {α β : Type} (f : α → List β) (n : Nat) (hf : ∀ a, (f a).length = n) : ∀ (l : List α) (x j : Nat) (a b : α) (y : β), l[x]? = some a → j < n → (f a).set j y = f b → (l.flatMap f).set (x * n + j) y = (l.set x b).flatMap f
  | [], x, j, a, b, y, h, _, _ => by simp at h
  | c :: l, 0, j, a, b, y, h, hj, he => by
    simp at h
    subst h
    rw [List.flatMap_cons, List.set_cons_zero, List.flatMap_cons, Nat.zero_mul, Nat.zero_add, List.set_append_left _ _ (by rw [hf]; exact hj), he]
  | c :: l, x + 1, j, a, b, y, h, hj, he => by
    rw [List.flatMap_cons, List.set_cons_succ, List.flatMap_cons, List.set_append_right _ _ (by rw [hf, Nat.succ_mul]; omega)]
    rw [show (x + 1) * n + j - (f c).length = x * n + j by rw [hf, Nat.succ_mul]; omega]
    rw [flat_set f n hf l x j a b y (by simpa using h) hj he]
/-- A choice made another way. -/
theorem ChM.way (h : ChM w v fT fR cs vs) {c : Nat} {C : Cho} (hc : cs[c]? = some C) {bX : Nat} (hX : v.a = some ⟨bX, 0, none⟩) (x : Nat) : ChM (w.setCell ⟨bX, c * 5 + 4, none⟩ (.int .i64 x)) v fT fR (cs.set c { C with way := x }) vs := by
  have hl := (List.getElem?_eq_some_iff.mp hc).1
  obtain ⟨bX', s0, s1, e1, e2, e3, _⟩ := h.at hc
  rw [hX] at e1; injection e1 with e1; injection e1 with e1; subst e1
  have hu := Upd.store w bX (c * 5 + 4) (.int .i64 x)
  have nR : ∀ k ∈ fR, k ∉ [bX] := fun k hk hm => by simp at hm; subst hm; exact h.nd k (by rw [e2]; simp) hk
  refine ⟨by simp [h.len], by simp [h.n], ?_, ?_, fun k hk => Nat.lt_of_lt_of_le (h.lt k hk) hu.size, h.nd⟩
  · have t := h.top
    rw [hX] at t ⊢
    have t2 := t.store (c * 5 + 4) (.int .i64 x)
    have hz : (cs.zip vs)[c]? = some (C, (s0, s1)) := by rw [List.getElem?_zip_eq_some]; exact ⟨hc, e3⟩
    rw [flat_set chC 5 (fun _ => rfl) (cs.zip vs) c 4 (C, (s0, s1)) ({ C with way := x }, (s0, s1)) (.int .i64 x) hz (by omega) rfl] at t2
    have : (cs.zip vs).set c ({ C with way := x }, (s0, s1)) = (cs.set c { C with way := x }).zip vs := by
      refine List.ext_getElem? (fun i => ?_)
      by_cases ei : c = i
      · subst ei
        rw [List.getElem?_set_self (by simp [h.len, hl])]
        symm
        rw [List.getElem?_zip_eq_some]
        exact ⟨by rw [List.getElem?_set_self hl], e3⟩
      · rw [List.getElem?_set_ne ei]; simp only [List.zip, List.getElem?_zipWith, List.getElem?_set_ne ei]
    rw [this] at t2
    exact t2
  · intro i D p hD hp
    by_cases ei : c = i
    · subst ei
      rw [List.getElem?_set_self hl] at hD
      injection hD with hD
      subst hD
      obtain ⟨r1, r2⟩ := h.rows c C p hc hp
      exact ⟨r1.keep hu nR, r2.keep hu nR⟩
    · rw [List.getElem?_set_ne ei] at hD
      obtain ⟨r1, r2⟩ := h.rows i D p hD hp
      exact ⟨r1.keep hu nR, r2.keep hu nR⟩
end
def kcC (bN bF m : Nat) (vS vO vC : Value) : Nat → Option Value := fun j => if j = 6 then some vC else kc0 bN bF m vS vO j
/-- The polygraph with its choices. -/
structure PX (d bN bF m : Nat) (g : GG) (G : List (List Nat)) (J : List Bool) (sg : SG) (ss : List Sr) (og : OG) (os : List Ob) (v : SV) (fT fR : List Nat) (cs : List Cho) (vs : List (SV × SV)) (w : World) : Prop where
  gr : Gr w d 2 g G J
  sr : Srcs w sg ss
  ob : Objs w og os
  kc : g.kc = kcC bN bF m (.slice sg.a ss.length sg.c) (.slice og.a os.length og.c) (.slice v.a v.n v.c)
  nd : (polyFp d g sg og).Nodup
  ch : ChM w v fT fR cs vs
  ap : ∀ k ∈ fT ++ fR, k ∉ polyFp d g sg og
section
variable {d bN bF m : Nat} {g : GG} {G : List (List Nat)} {J : List Bool} {sg : SG} {ss : List Sr} {og : OG} {os : List Ob} {v : SV} {fT fR : List Nat} {cs : List Cho} {vs : List (SV × SV)} {w w' : World}
theorem PX.start (h : Poly d bN bF m g G J sg ss og os w) : PX d bN bF m g G J sg ss og os ⟨none, 0, 0⟩ [] [] [] [] w := by
  refine ⟨h.gr, h.sr, h.ob, ?_, h.nd, ChM.empty w, by simp⟩
  rw [h.kc]
  funext j
  unfold kcC kc0
  by_cases e : j = 6
  · subst e; rfl
  · simp [e]
theorem PX.lt (h : PX d bN bF m g G J sg ss og os v fT fR cs vs w) : ∀ k ∈ polyFp d g sg og ++ (fT ++ fR), k < w.heap.size := by
  intro k hk
  simp only [polyFp, List.mem_cons, List.mem_append] at hk
  rcases hk with (rfl | hk | hk | hk) | hk | hk
  · exact h.gr.lt
  · exact h.gr.footLt k hk
  · exact h.sr.lt k hk
  · exact h.ob.lt k hk
  · exact h.ch.top.lt k hk
  · exact h.ch.lt k hk
theorem PX.keep (h : PX d bN bF m g G J sg ss og os v fT fR cs vs w) {S : List Nat} (hu : Upd S w w') (hS : ∀ k ∈ polyFp d g sg og ++ (fT ++ fR), k ∉ S) : PX d bN bF m g G J sg ss og os v fT fR cs vs w' := by
  have h1 : ∀ k ∈ polyFp d g sg og, k ∉ S := fun k hk => hS k (List.mem_append_left _ hk)
  have h2 : ∀ k ∈ fT ++ fR, k ∉ S := fun k hk => hS k (List.mem_append_right _ hk)
  exact ⟨h.gr.keep hu (h1 d (by simp [polyFp])) (fun k hk => h1 k (by simp [polyFp, hk])), h.sr.keep hu (fun k hk => h1 k (by simp [polyFp, hk])), h.ob.keep hu (fun k hk => h1 k (by simp [polyFp, hk])), h.kc, h.nd, h.ch.keep hu (fun k hk => h2 k (by simp [hk])) (fun k hk => h2 k (by simp [hk])), h.ap⟩
theorem PX.grow (h : PX d bN bF m g G J sg ss og os v fT fR cs vs w) (hu : Upd [] w w') : PX d bN bF m g G J sg ss og os v fT fR cs vs w' := h.keep hu (by simp)
theorem PX.below (h : PX d bN bF m g G J sg ss og os v fT fR cs vs w) (hb : Below w.heap.size w w') : PX d bN bF m g G J sg ss og os v fT fR cs vs w' := h.grow ⟨hb.os, hb.tape, hb.output, hb.size, fun k hk _ => hb.block k hk⟩
theorem PX.cell (h : PX d bN bF m g G J sg ss og os v fT fR cs vs w) {j : Nat} {x : Value} (hj : kcC bN bF m (.slice sg.a ss.length sg.c) (.slice og.a os.length og.c) (.slice v.a v.n v.c) j = some x) : w.cell? ⟨d, j, none⟩ = some x ∧ w.frozen? ⟨d, j, none⟩ = false := by
  rw [← h.kc] at hj
  exact ⟨(h.gr.oth j x hj).2.2.1, (h.gr.oth j x hj).2.2.2⟩
/-- New choices, and the polygraph's cell that tells where they lie. -/
theorem PX.put (h : PX d bN bF m g G J sg ss og os v fT fR cs vs w) {w1 : World} (hu : Upd fT w w1) {v' : SV} {fT' fR' : List Nat} {cs' : List Cho} {vs' : List (SV × SV)} (hc : ChM w1 v' fT' fR' cs' vs') (hf : ∀ k ∈ fT' ++ fR', k ∈ fT ++ fR ∨ w.heap.size ≤ k) :
    ∃ g', g'.foot = g.foot ∧ PX d bN bF m g' G J sg ss og os v' fT' fR' cs' vs' (w1.setCell ⟨d, 6, none⟩ (.slice v'.a v'.n v'.c)) ∧ Upd (d :: fT) w (w1.setCell ⟨d, 6, none⟩ (.slice v'.a v'.n v'.c)) := by
  have hst := Upd.store w1 d 6 (.slice v'.a v'.n v'.c)
  have lt := h.lt
  have nP : ∀ k ∈ polyFp d g sg og, k ∉ fT := fun k hk hm => h.ap k (by simp [hm]) hk
  have nD : ∀ k ∈ fT' ++ fR', k ∉ polyFp d g sg og := by
    intro k hk hm
    rcases hf k hk with z | z
    · exact h.ap k z hm
    · have := lt k (List.mem_append_left _ hm); omega
  have dP : d ∈ polyFp d g sg og := by simp [polyFp]
  have gr1 := h.gr.keep hu (nP d dP) (fun k hk => nP k (by simp [polyFp, hk]))
  have hK : g.kc 6 = some (.slice v.a v.n v.c) := by rw [h.kc]; rfl
  have gr2 := gr1.setOther hK (.slice v'.a v'.n v'.c)
  have nd := h.nd
  simp only [polyFp, List.nodup_cons, List.nodup_append, List.mem_append, not_or] at nd
  refine ⟨{ g with kc := fun i => if i = 6 then some (.slice v'.a v'.n v'.c) else g.kc i }, rfl, ⟨gr2, (h.sr.keep hu (fun k hk => nP k (by simp [polyFp, hk]))).keep hst (fun k hk hm => by simp at hm; subst hm; exact nd.1.2.1 hk), (h.ob.keep hu (fun k hk => nP k (by simp [polyFp, hk]))).keep hst (fun k hk hm => by simp at hm; subst hm; exact nd.1.2.2 hk), ?_, h.nd, hc.keep hst (fun k hk hm => by simp at hm; subst hm; exact nD k (by simp [hk]) dP) (fun k hk hm => by simp at hm; subst hm; exact nD k (by simp [hk]) dP), nD⟩, (hu.mono (fun k hk => .inl (by simp [hk]))).trans hst (fun k hk => .inl (by simp at hk; simp [hk]))⟩
  show (fun i => if i = 6 then some (Value.slice v'.a v'.n v'.c) else g.kc i) = _
  rw [h.kc]
  funext j
  unfold kcC
  by_cases e : j = 6
  · simp [e]
  · simp [e]
/-- A choice made another way. -/
theorem PX.way (h : PX d bN bF m g G J sg ss og os v fT fR cs vs w) {c : Nat} {C : Cho} (hc : cs[c]? = some C) {bX : Nat} (hX : v.a = some ⟨bX, 0, none⟩) (x : Nat) : PX d bN bF m g G J sg ss og os v fT fR (cs.set c { C with way := x }) vs (w.setCell ⟨bX, c * 5 + 4, none⟩ (.int .i64 x)) ∧ Upd fT w (w.setCell ⟨bX, c * 5 + 4, none⟩ (.int .i64 x)) := by
  obtain ⟨bX', s0, s1, e1, e2, e3, _⟩ := h.ch.at hc
  rw [hX] at e1; injection e1 with e1; injection e1 with e1; subst e1
  have hu := Upd.store w bX (c * 5 + 4) (.int .i64 x)
  have nP : ∀ k ∈ polyFp d g sg og, k ∉ [bX] := fun k hk hm => by simp at hm; subst hm; exact h.ap k (by simp [e2]) hk
  exact ⟨⟨h.gr.keep hu (nP d (by simp [polyFp])) (fun k hk => nP k (by simp [polyFp, hk])), h.sr.keep hu (fun k hk => nP k (by simp [polyFp, hk])), h.ob.keep hu (fun k hk => nP k (by simp [polyFp, hk])), h.kc, h.nd, h.ch.way hc hX x, h.ap⟩, by rw [e2]; exact hu⟩
end
end Go.Proofs.YbulkctquGreatFmt

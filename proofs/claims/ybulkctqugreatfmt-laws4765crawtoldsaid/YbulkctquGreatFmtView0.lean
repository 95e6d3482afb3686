/-
  Graphs that are only read.
-/
import Derived.Test.YbulkctquGreatFmtOwn
namespace Go.Proofs.YbulkctquGreatFmt
open Go.ChangeShapes Go.WideShapes Go.ChangeAt Go.RowKit Go.Ord
set_option linter.unusedVariables false

/-- A graph by its two slices, to be read. -/
structure GrV (w : World) (aS : Option Addr) (aJ : Option Addr) (G : List (List Nat)) (J : List Bool) : Prop where
  row : ∀ (i : Nat) (r : List Nat), G[i]? = some r → ∃ (b : Nat) (s : SV), aS = some ⟨b, 0, none⟩ ∧ s.n = r.length ∧ (s.n ≤ s.c ∧ s.c ≤ 9223372036854775807) ∧ w.cell? ⟨b, i, none⟩ = some (.slice s.a s.n s.c) ∧ (s.a = none ∧ s.c = 0 ∨ ∃ c, s.a = some ⟨c, 0, none⟩) ∧ ∀ (k x : Nat), r[k]? = some x → ∃ c, s.a = some ⟨c, 0, none⟩ ∧ w.cell? ⟨c, k, none⟩ = some (.int .i64 x)
  jun : ∀ (i : Nat) (j : Bool), J[i]? = some j → ∃ c, aJ = some ⟨c, 0, none⟩ ∧ w.cell? ⟨c, i, none⟩ = some (.bool j)
  len : J.length = G.length
theorem GrV.keep {w w' : World} {aS aJ : Option Addr} {G : List (List Nat)} {J : List Bool} (h : GrV w aS aJ G J) (hk : ∀ b j v, w.cell? ⟨b, j, none⟩ = some v → w'.cell? ⟨b, j, none⟩ = some v) : GrV w' aS aJ G J := by
  refine ⟨fun i r hr => ?_, fun i j hj => ?_, h.len⟩
  · obtain ⟨b, s, h1, h2, h2', h3, h3', h4⟩ := h.row i r hr
    exact ⟨b, s, h1, h2, h2', hk _ _ _ h3, h3', fun k x hx => by obtain ⟨c, h5, h6⟩ := h4 k x hx; exact ⟨c, h5, hk _ _ _ h6⟩⟩
  · obtain ⟨c, h1, h2⟩ := h.jun i j hj
    exact ⟨c, h1, hk _ _ _ h2⟩
/-- A graph at block d, offset o, to be read. -/
structure GrR (w : World) (d o : Nat) (G : List (List Nat)) (J : List Bool) : Prop where
  lies : ∃ aS kS aJ kJ, w.cell? ⟨d, o, none⟩ = some (.slice aS G.length kS) ∧ w.cell? ⟨d, o + 1, none⟩ = some (.slice aJ G.length kJ) ∧ G.length ≤ kS ∧ (G.length ≤ kJ ∧ kJ ≤ 9223372036854775807) ∧ (aJ = none ∧ kJ = 0 ∨ ∃ c, aJ = some ⟨c, 0, none⟩) ∧ GrV w aS aJ G J
theorem GrR.keep {w w' : World} {d o : Nat} {G : List (List Nat)} {J : List Bool} (h : GrR w d o G J) (hk : ∀ b j v, w.cell? ⟨b, j, none⟩ = some v → w'.cell? ⟨b, j, none⟩ = some v) : GrR w' d o G J := by
  obtain ⟨aS, kS, aJ, kJ, h1, h2, h3, h4, h6, h5⟩ := h.lies
  exact ⟨aS, kS, aJ, kJ, hk _ _ _ h1, hk _ _ _ h2, h3, h4, h6, h5.keep hk⟩
theorem GrR.below {w w' : World} {d o : Nat} {G : List (List Nat)} {J : List Bool} (h : GrR w d o G J) (hb : Below w.heap.size w w') : GrR w' d o G J :=
  h.keep fun b j v hv => (hb.cell (World.block_lt_of_cell? _ _ hv)).trans hv
theorem Gr.read {w : World} {d o : Nat} {g : GG} {G : List (List Nat)} {J : List Bool} (h : Gr w d o g G J) : GrR w d o G J := by
  have lJ : J.length = G.length := by have := h.sJ.len; simpa using this
  have sh : ∀ {e : TypeId} {a : Option Addr} {n c : Nat} {f : List Nat} {xs : List Value}, Sl w e 1 a n c f xs → (a = none ∧ c = 0 ∨ ∃ b, a = some ⟨b, 0, none⟩) := by
    intro e a n c f xs hs
    rcases hs.lies with ⟨e1, _, e2, _⟩ | ⟨g, cur, e1, _⟩
    · exact .inl ⟨e1, e2⟩
    · exact .inr ⟨g, e1⟩
  refine ⟨g.aS, g.kS, g.aJ, g.kJ, h.cS, h.cJ, h.sS.le.1, h.sJ.le, sh h.sJ, ⟨fun i r hr => ?_, fun i j hj => ?_, lJ⟩⟩
  · have hl := (List.getElem?_eq_some_iff.mp hr).1
    obtain ⟨s, hs⟩ := has_at g.vs (k := i) (by rw [h.lV]; exact hl)
    obtain ⟨f, hf⟩ := has_at g.fI (k := i) (by rw [h.lI]; exact hl)
    obtain ⟨h1, h2⟩ := h.sI i s f r hs hf hr
    obtain ⟨b, e1, _, e3⟩ := h.sS.get (j := i) (v := s.val) (by simp [hs])
    exact ⟨b, s, e1, h1, h2.le, e3, sh h2, fun k x hx => by
      obtain ⟨c, q1, _, q2⟩ := h2.get (j := k) (v := nI x) (by simp [hx])
      exact ⟨c, q1, q2⟩⟩
  · obtain ⟨c, q1, _, q2⟩ := h.sJ.get (j := i) (v := .bool j) (by simp [hj])
    exact ⟨c, q1, q2⟩

end Go.Proofs.YbulkctquGreatFmt

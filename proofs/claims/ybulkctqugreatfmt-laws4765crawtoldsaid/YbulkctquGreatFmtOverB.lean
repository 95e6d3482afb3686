/-
  Tables that are only read.
-/
import Derived.Test.YbulkctquGreatFmtOverA
namespace Go.Proofs.YbulkctquGreatFmt
open Go.ChangeShapes Go.WideShapes Go.ChangeAt Go.RowKit Go.Ord
set_option linter.unusedVariables false

/-- A table, its words told. -/
structure TabV (b n : Nat) (fp : List Nat) (vs : List SV) (R : List (List Nat)) (w : World) : Prop where
  lies : ∃ fI, fp = b :: fI.flatten ∧ Sl w 83 1 (some ⟨b, 0, none⟩) n n [b] (vs.map SV.val) ∧ Rws w vs fI R ∧ ∀ (i : Nat) (s : SV), vs[i]? = some s → s.n = 0 → s.a = none
  len : R.length = n
theorem Tab.told {b n : Nat} {fp : List Nat} {R : List (List Nat)} {w : World} (h : Tab b n fp R w) : ∃ vs, TabV b n fp vs R w := by
  obtain ⟨vs, fI, h1, h2, h3, h4⟩ := h.lies
  exact ⟨vs, ⟨fI, h1, h2, h3, h4⟩, h.len⟩
theorem TabV.keeps (b n : Nat) (fp : List Nat) (vs : List SV) (R : List (List Nat)) : Keeps fp (TabV b n fp vs R) := by
  intro w w' S h hu hS
  obtain ⟨fI, h1, h2, h3, h4⟩ := h.lies
  subst h1
  exact ⟨⟨fI, rfl, h2.keep hu (fun k hk => hS k (by simp at hk; simp [hk])), h3.keep hu (fun k hk => hS k (by simp only [List.mem_cons]; exact .inr hk)), h4⟩, h.len⟩
theorem TabV.has {b n : Nat} {fp : List Nat} {vs : List SV} {R : List (List Nat)} {w : World} (h : TabV b n fp vs R w) {i : Nat} (hi : i < n) : ∃ s r, vs[i]? = some s ∧ R[i]? = some r := by
  obtain ⟨fI, h1, h2, h3, h4⟩ := h.lies
  have hl := h.len
  obtain ⟨r, hr⟩ := has_at R (k := i) (by omega)
  obtain ⟨s, hs⟩ := has_at vs (k := i) (by rw [h3.lV]; omega)
  exact ⟨s, r, hs, hr⟩
theorem TabV.get {b n : Nat} {fp : List Nat} {vs : List SV} {R : List (List Nat)} {w : World} (h : TabV b n fp vs R w) {i : Nat} {s : SV} {r : List Nat} (hs : vs[i]? = some s) (hr : R[i]? = some r) :
    w.cell? ⟨b, i, none⟩ = some (.slice s.a s.n s.c) ∧ s.n = r.length ∧ (r = [] → s.a = none) ∧ ∃ f, Sl w 3 1 s.a s.n s.c f (r.map nI) ∧ ∀ k ∈ f, k ∈ fp := by
  obtain ⟨fI, h1, h2, h3, h4⟩ := h.lies
  have hl := (List.getElem?_eq_some_iff.mp hr).1
  have hlen := h.len
  obtain ⟨s', f, a1, a2, a3, a4, a5⟩ := h3.at hr
  rw [hs] at a1; cases a1
  obtain ⟨g0, eg, _, _, hc, hz⟩ := h2.has (by omega)
  injection eg with eg
  injection eg with eg
  subst eg
  exact ⟨(hc i (by omega)).trans (by simp [hs, SV.val]), a3, fun e => h4 i s hs (by rw [a3, e]; rfl), f, a4, fun k hk => by rw [h1]; simp only [List.mem_cons]; exact .inr (a5 k hk)⟩
/-- The number at a place of a row. -/
theorem TabV.num {b n : Nat} {fp : List Nat} {vs : List SV} {R : List (List Nat)} {w : World} (h : TabV b n fp vs R w) {i : Nat} {s : SV} {r : List Nat} (hs : vs[i]? = some s) (hr : R[i]? = some r) {j x : Nat} (hj : r[j]? = some x) :
    ∃ g, s.a = some ⟨g, 0, none⟩ ∧ w.cell? ⟨g, j, none⟩ = some (.int .i64 x) := by
  obtain ⟨_, _, _, f, h1, _⟩ := h.get hs hr
  obtain ⟨g, h2, _, h3⟩ := h1.get (j := j) (v := nI x) (by simp [hj])
  exact ⟨g, h2, h3⟩
/-- A piece told otherwise. -/
theorem Pcs.conv {w0 w : World} {L : List Pc} (h : Pcs w0 w L) {i : Nat} {fp : List Nat} {P P' : World → Prop} (hi : L[i]? = some (fp, P)) (hP : P' w) (hK : Keeps fp P') : Pcs w0 w (L.set i (fp, P')) := by
  refine ⟨h.bel, fun p hp => ?_, ?_⟩
  · obtain ⟨j, hj⟩ := List.getElem?_of_mem hp
    by_cases e : i = j
    · subst e
      rw [List.getElem?_set_self (List.getElem?_eq_some_iff.mp hi).1] at hj
      injection hj with hj
      subst hj
      exact ⟨hP, hK, (h.holds _ (List.mem_of_getElem? hi)).2.2⟩
    · rw [List.getElem?_set_ne e] at hj
      exact h.holds p (List.mem_of_getElem? hj)
  · have e : (L.set i (fp, P')).map Prod.fst = L.map Prod.fst := by
      rw [List.map_set]
      apply List.ext_getElem?
      intro j
      by_cases e : i = j
      · subst e
        rw [List.getElem?_set_self (by simpa using (List.getElem?_eq_some_iff.mp hi).1)]
        simp [hi]
      · rw [List.getElem?_set_ne e]
    rw [e]; exact h.nd

abbrev L2 (w : World) (fb cf n b11 : Nat) (fa : List Int) (SA : Nat × Nat → Option Nat) (fp5 : List Nat) (v5 : List SV) (R5 : List (List Nat)) (fp6 : List Nat) (v6 : List SV) (R6 : List (List Nat)) (fp11 : List Nat) (v11 : List SV) (R11 : List (List Nat)) : List Pc :=
  [([w.heap.size], CellIs w.heap.size (.slice (some ⟨fb, 0, none⟩) fa.length cf)), ([w.heap.size + 1], fun z => MapAt z k2 (w.heap.size + 1) (fun p => (SA p).map (ik .i64))), (fp5, TabV (w.heap.size + 2) n fp5 v5 R5), (fp6, TabV (w.heap.size + 3) n fp6 v6 R6), (fp11, TabV b11 n fp11 v11 R11)]
/-- Which sources node u has been added to, so far. -/
def Seen (ss : List Sr) (seen : List Nat) (k : Nat) : Prop := ∃ s, ss[k]? = some s ∧ s.wr ∈ seen
theorem T5I.tells {ss : List Sr} {m : Nat} {R : List (List Nat)} (h : T5I ss m R) {t : Nat} {r : List Nat} (hr : R[t]? = some r) {i k : Nat} (hk : r[i]? = some k) : ∃ s, ss[k]? = some s ∧ s.wr = t ∧ k ∉ r.take i := by
  obtain ⟨h1, h2⟩ := h t r hr
  obtain ⟨_, s, h3, h4⟩ := h2 k (List.mem_of_getElem? hk)
  refine ⟨s, h3, h4, fun hm => ?_⟩
  rw [← List.take_append_drop i r, List.nodup_append] at h1
  refine h1.2.2 k hm k ?_ rfl
  rw [drop_at hk]; simp
theorem take_snoc {α : Type} {l : List α} {i : Nat} {x : α} (h : l[i]? = some x) : l.take (i + 1) = l.take i ++ [x] := by rw [List.take_add_one, h]; rfl
end Go.Proofs.YbulkctquGreatFmt

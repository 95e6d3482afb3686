/-
  Rws of rows of numbers: the objects and the sources of a polygraph.
-/
import Derived.Test.YbulkctquGreatFmtOthers
namespace Go.Proofs.YbulkctquGreatFmt
open Go.ChangeShapes Go.WideShapes Go.ChangeAt Go.RowKit Go.Ord
set_option linter.unusedVariables false

/-- Rws of numbers, each in a block of its own or nil. -/
structure Rws (w : World) (vs : List SV) (fI : List (List Nat)) (R : List (List Nat)) : Prop where
  lV : vs.length = R.length
  lI : fI.length = R.length
  row : ∀ (i : Nat) (s : SV) (f r : List Nat), vs[i]? = some s → fI[i]? = some f → R[i]? = some r → s.n = r.length ∧ Sl w 3 1 s.a s.n s.c f (r.map nI)
  nd : fI.flatten.Nodup

section
variable {w w' : World} {vs : List SV} {fI : List (List Nat)} {R : List (List Nat)}
theorem Rws.empty (w : World) : Rws w [] [] [] := ⟨rfl, rfl, fun i s f r h => by simp at h, by simp⟩
theorem Rws.lt (h : Rws w vs fI R) : ∀ k ∈ fI.flatten, k < w.heap.size := by
  intro k hk
  obtain ⟨f, hf, hk⟩ := List.mem_flatten.mp hk
  obtain ⟨i, hi⟩ := List.getElem?_of_mem hf
  have hl := (List.getElem?_eq_some_iff.mp hi).1
  obtain ⟨s, hs⟩ := has_at vs (k := i) (by rw [h.lV]; rw [h.lI] at hl; exact hl)
  obtain ⟨r, hr⟩ := has_at R (k := i) (by rw [h.lI] at hl; exact hl)
  exact (h.row i s f r hs hi hr).2.lt k hk
theorem Rws.keep (h : Rws w vs fI R) {S : List Nat} (hu : Upd S w w') (hn : ∀ k ∈ fI.flatten, k ∉ S) : Rws w' vs fI R := by
  refine ⟨h.lV, h.lI, ?_, h.nd⟩
  intro i s f r hs hf hr
  obtain ⟨h3, h4⟩ := h.row i s f r hs hf hr
  exact ⟨h3, h4.keep hu (fun k hk => hn k (List.mem_flatten.mpr ⟨f, List.mem_of_getElem? hf, hk⟩))⟩
theorem Rws.at (h : Rws w vs fI R) {i : Nat} {r : List Nat} (hr : R[i]? = some r) : ∃ s f, vs[i]? = some s ∧ fI[i]? = some f ∧ s.n = r.length ∧ Sl w 3 1 s.a s.n s.c f (r.map nI) ∧ ∀ k ∈ f, k ∈ fI.flatten := by
  have hl := (List.getElem?_eq_some_iff.mp hr).1
  obtain ⟨s, hs⟩ := has_at vs (k := i) (by rw [h.lV]; exact hl)
  obtain ⟨f, hf⟩ := has_at fI (k := i) (by rw [h.lI]; exact hl)
  obtain ⟨h1, h2⟩ := h.row i s f r hs hf hr
  exact ⟨s, f, hs, hf, h1, h2, fun k hk => List.mem_flatten.mpr ⟨f, List.mem_of_getElem? hf, hk⟩⟩
/-- More rows, all nil. -/
theorem Rws.more (h : Rws w vs fI R) (n : Nat) : Rws w (vs ++ List.replicate n ⟨none, 0, 0⟩) (fI ++ List.replicate n []) (R ++ List.replicate n []) := by
  refine ⟨by simp [h.lV], by simp [h.lI], ?_, by simp [h.nd]⟩
  intro i s f r hs hf hr
  have lV := h.lV
  have lI := h.lI
  by_cases hi : i < R.length
  · rw [List.getElem?_append_left (by omega)] at hs hf hr
    exact h.row i s f r hs hf hr
  · rw [List.getElem?_append_right (by omega)] at hs hf hr
    obtain ⟨_, rfl⟩ := List.mem_replicate.mp (List.mem_of_getElem? hs)
    obtain ⟨_, rfl⟩ := List.mem_replicate.mp (List.mem_of_getElem? hf)
    obtain ⟨_, rfl⟩ := List.mem_replicate.mp (List.mem_of_getElem? hr)
    exact ⟨rfl, Sl.empty _ _ _⟩
/-- One number more in one row. -/
theorem Rws.put (h : Rws w vs fI R) {i : Nat} {r : List Nat} (hr : R[i]? = some r) {s : SV} (hs : vs[i]? = some s) {f : List Nat} (hf : fI[i]? = some f) {g c x : Nat} {w' : World}
    (s1 : Sl w' 3 1 (some ⟨g, 0, none⟩) (s.n + 1) c [g] (r.map nI ++ [nI x])) (U : Upd f w w') (F : g ∈ f ∨ w.heap.size ≤ g) :
    Rws w' (vs.set i ⟨some ⟨g, 0, none⟩, s.n + 1, c⟩) (fI.set i [g]) (R.set i (r ++ [x])) := by
  have hl := (List.getElem?_eq_some_iff.mp hr).1
  have lV := h.lV
  have lI := h.lI
  have hn := (h.row i s f r hs hf hr).1
  have F' : g ∈ f ∨ g ∉ fI.flatten := by
    rcases F with e | e
    · exact .inl e
    · exact .inr (fun hm => by have := h.lt _ hm; omega)
  refine ⟨by simp [lV], by simp [lI], ?_, nodup_flat_set h.nd hf F'⟩
  intro j s' f' r' hs' hf' hr'
  by_cases e : i = j
  · subst e
    rw [List.getElem?_set_self (by omega)] at hs' hf' hr'
    injection hs' with hs'
    injection hf' with hf'
    injection hr' with hr'
    subst hs' hf' hr'
    exact ⟨by simp [hn], by simpa using s1⟩
  · rw [List.getElem?_set_ne e] at hs' hf' hr'
    obtain ⟨h3, h4⟩ := h.row j s' f' r' hs' hf' hr'
    exact ⟨h3, h4.keep U (fun k hk hm => flat_apart h.nd e hf hf' k hm hk)⟩
end

/-- An object of a polygraph, and a source. -/
structure Ob where
  wr : List Nat
  ini : List Nat
  rk : List Nat
structure Sr where
  ob : Nat
  wr : Nat
  rk : Nat
  rd : List Nat
def Ob.rows (o : Ob) : List (List Nat) := [o.wr, o.ini, o.rk]

/-- The objects: where their row lies, and their rows' blocks. -/
structure OG where
  a : Option Addr
  c : Nat
  fO : List Nat
  vs : List SV
  fI : List (List Nat)
def OG.foot (g : OG) : List Nat := g.fO ++ g.fI.flatten
structure Objs (w : World) (g : OG) (os : List Ob) : Prop where
  top : Sl w 139 3 g.a os.length g.c g.fO (g.vs.map SV.val)
  rows : Rws w g.vs g.fI (os.flatMap Ob.rows)
  nd : g.foot.Nodup

/-- The sources. -/
structure SG where
  a : Option Addr
  c : Nat
  fO : List Nat
  vs : List SV
  fI : List (List Nat)
def SG.foot (g : SG) : List Nat := g.fO ++ g.fI.flatten
def srCells (p : Sr × SV) : List Value := [nI p.1.ob, nI p.1.wr, nI p.1.rk, p.2.val]
structure Srcs (w : World) (g : SG) (ss : List Sr) : Prop where
  top : Sl w 142 4 g.a ss.length g.c g.fO ((ss.zip g.vs).flatMap srCells)
  rows : Rws w g.vs g.fI (ss.map Sr.rd)
  nd : g.foot.Nodup
end Go.Proofs.YbulkctquGreatFmt

/-
  What is of no program: lists that the call owns, one or two of them, since a world w0.
-/
import Derived.Test.YbulkctquGreatFmtJoin
namespace Go.Ord
open Go.RowKit Go.Proofs.YbulkctquGreatFmt

/-- A list of the call's own, made since w0. -/
structure Own {α : Type} (w0 w : World) (e : TypeId) (enc : α → Value) (v : SV) (xs : List α) : Prop where
  lies : ∃ f, Sl w e 1 v.a v.n v.c f (xs.map enc) ∧ ∀ k ∈ f, w0.heap.size ≤ k
  bel : Below w0.heap.size w0 w
section
variable {α : Type} {w0 w w' : World} {e : TypeId} {enc : α → Value} {v : SV} {xs : List α}
theorem Own.len (h : Own w0 w e enc v xs) : v.n = xs.length := by
  obtain ⟨f, h1, _⟩ := h.lies
  have := h1.len
  simp at this; exact this.symm
theorem Own.empty (w0 w : World) (e : TypeId) (enc : α → Value) (h : Below w0.heap.size w0 w) : Own w0 w e enc ⟨none, 0, 0⟩ [] := ⟨⟨[], Sl.empty _ _ _, by simp⟩, h⟩
theorem Own.below (h : Own w0 w e enc v xs) (hb : Below w.heap.size w w') : Own w0 w' e enc v xs := by
  obtain ⟨f, h1, h2⟩ := h.lies
  have hu : Upd [] w w' := ⟨hb.os, hb.tape, hb.output, hb.size, fun k hk _ => hb.block k hk⟩
  exact ⟨⟨f, h1.keep hu (by simp), h2⟩, h.bel.trans (hb.mono h.bel.size)⟩
theorem Own.grow (h : Own w0 w e enc v xs) {f : List Nat} (hf : ∀ k ∈ f, w0.heap.size ≤ k) {g c : Nat} {x : α} {u : Value} (hu : u = enc x) (s : Sl w' e 1 (some ⟨g, 0, none⟩) (v.n + 1) c [g] (xs.map enc ++ [u])) (U : Upd f w w') (F : g ∈ f ∨ w.heap.size ≤ g) :
    Own w0 w' e enc ⟨some ⟨g, 0, none⟩, v.n + 1, c⟩ (xs ++ [x]) := by
  subst hu
  have hz := h.bel.size
  refine ⟨⟨[g], by simpa using s, ?_⟩, h.bel.trans (U.below hz hf)⟩
  intro k hk
  simp at hk; subst hk
  rcases F with F | F
  · exact hf _ F
  · omega
end

/-- Two lists of the call's own, made since w0, that share nothing. -/
structure Duo {α β : Type} (w0 w : World) (e e' : TypeId) (enc : α → Value) (enc' : β → Value) (vA vB : SV) (A : List α) (B : List β) : Prop where
  lies : ∃ fA, Sl w e 1 vA.a vA.n vA.c fA (A.map enc) ∧ (∀ k ∈ fA, w0.heap.size ≤ k) ∧ ∃ fB, Sl w e' 1 vB.a vB.n vB.c fB (B.map enc') ∧ (∀ k ∈ fB, w0.heap.size ≤ k) ∧ ∀ k ∈ fA, k ∉ fB
  bel : Below w0.heap.size w0 w
section
variable {α β : Type} {w0 w w' : World} {e e' : TypeId} {enc : α → Value} {enc' : β → Value} {vA vB : SV} {A : List α} {B : List β}
theorem Duo.swap (h : Duo w0 w e e' enc enc' vA vB A B) : Duo w0 w e' e enc' enc vB vA B A := by
  obtain ⟨fA, h1, h2, fB, h3, h4, h5⟩ := h.lies
  exact ⟨⟨fB, h3, h4, fA, h1, h2, fun k h6 h7 => h5 k h7 h6⟩, h.bel⟩
theorem Duo.fst (h : Duo w0 w e e' enc enc' vA vB A B) : Own w0 w e enc vA A := by
  obtain ⟨fA, h1, h2, _⟩ := h.lies
  exact ⟨⟨fA, h1, h2⟩, h.bel⟩
theorem Duo.snd (h : Duo w0 w e e' enc enc' vA vB A B) : Own w0 w e' enc' vB B := h.swap.fst
theorem Duo.empty (w0 w : World) (e e' : TypeId) (enc : α → Value) (enc' : β → Value) (h : Below w0.heap.size w0 w) : Duo w0 w e e' enc enc' ⟨none, 0, 0⟩ ⟨none, 0, 0⟩ [] [] :=
  ⟨⟨[], Sl.empty _ _ _, by simp, [], Sl.empty _ _ _, by simp, by simp⟩, h⟩
theorem Duo.below (h : Duo w0 w e e' enc enc' vA vB A B) (hb : Below w.heap.size w w') : Duo w0 w' e e' enc enc' vA vB A B := by
  obtain ⟨fA, h1, h2, fB, h3, h4, h5⟩ := h.lies
  have hu : Upd [] w w' := ⟨hb.os, hb.tape, hb.output, hb.size, fun k hk _ => hb.block k hk⟩
  exact ⟨⟨fA, h1.keep hu (by simp), h2, fB, h3.keep hu (by simp), h4, h5⟩, h.bel.trans (hb.mono h.bel.size)⟩
theorem Duo.grow (h : Duo w0 w e e' enc enc' vA vB A B) {fA fB : List Nat} (nA : ∀ k ∈ fA, w0.heap.size ≤ k) (sB : Sl w e' 1 vB.a vB.n vB.c fB (B.map enc')) (nB : ∀ k ∈ fB, w0.heap.size ≤ k) (d : ∀ k ∈ fA, k ∉ fB)
    {g c : Nat} {x : α} {u : Value} (hu : u = enc x) (s : Sl w' e 1 (some ⟨g, 0, none⟩) (vA.n + 1) c [g] (A.map enc ++ [u])) (U : Upd fA w w') (F : g ∈ fA ∨ w.heap.size ≤ g) :
    Duo w0 w' e e' enc enc' ⟨some ⟨g, 0, none⟩, vA.n + 1, c⟩ vB (A ++ [x]) B := by
  subst hu
  have hz := h.bel.size
  refine ⟨⟨[g], by simpa using s, ?_, fB, sB.keep U (fun k h1 h2 => d k h2 h1), nB, ?_⟩, h.bel.trans (U.below hz nA)⟩
  · intro k hk; simp at hk; subst hk
    rcases F with f | f
    · exact nA _ f
    · omega
  · intro k hk hm; simp at hk; subst hk
    rcases F with f | f
    · exact d _ f hm
    · have := sB.lt _ hm; omega
end
end Go.Ord
namespace Go.Proofs.YbulkctquGreatFmt
open Go.Ord Go.RowKit
theorem Gr.below {w w' : World} {d o : Nat} {g : GG} {G : List (List Nat)} {J : List Bool} (h : Gr w d o g G J) (hb : Below w.heap.size w w') : Gr w' d o g G J :=
  h.keep (S := []) ⟨hb.os, hb.tape, hb.output, hb.size, fun k hk _ => hb.block k hk⟩ (by simp) (by simp)
theorem Apart.below {w w' : World} {d : Nat} {g : GG} {a : Option Addr} {n c : Nat} {xs : List Nat} (h : Apart w d g a n c xs) (hb : Below w.heap.size w w') : Apart w' d g a n c xs := by
  obtain ⟨f, h1, h2, h3⟩ := h.sl
  exact ⟨f, h1.keep (S := []) ⟨hb.os, hb.tape, hb.output, hb.size, fun k hk _ => hb.block k hk⟩ (by simp), h2, h3⟩
theorem Apart.of_own {w w' : World} {d o : Nat} {g : GG} {G : List (List Nat)} {J : List Bool} (hg : Gr w d o g G J) {v : SV} {xs : List Nat} (h : Own w w' 3 nI v xs) : Apart w' d g v.a xs.length v.c xs := by
  have hl := h.len
  obtain ⟨f, h1, h2⟩ := h.lies
  rw [hl] at h1
  refine ⟨f, h1, ?_, ?_⟩
  · intro hm; have := h2 _ hm; have := hg.lt; omega
  · intro k hk hm; have := h2 k hk; have := hg.footLt k hm; omega
end Go.Proofs.YbulkctquGreatFmt

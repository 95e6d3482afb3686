/-
  Loops and cuts in wide frames: a frame whose flagged slots hold whatever, as one function.
-/
import Derived.Deep.Cut
import Derived.Deep.LoopGhost
namespace Go.Ord
set_option linter.unusedVariables false

/-- none: kept; some none: whatever; some (some false): the relation's first slot; some (some true): its second. -/
def fillC : List (Option (Option Bool)) → List Value → (Nat → Value) → Value → Value → Nat → List Value
  | [], _, _, _, _, _ => []
  | _ :: _, [], _, _, _, _ => []
  | none :: fs, v :: l, u, x, y, i => v :: fillC fs l u x y (i + 1)
  | some none :: fs, _ :: l, u, x, y, i => u i :: fillC fs l u x y (i + 1)
  | some (some false) :: fs, _ :: l, u, x, y, i => x :: fillC fs l u x y (i + 1)
  | some (some true) :: fs, _ :: l, u, x, y, i => y :: fillC fs l u x y (i + 1)
/-- What is asked of a new frame. -/
def maskC : List (Option (Option Bool)) → List Value → List Value
  | [], _ => []
  | _ :: _, [] => []
  | some none :: fs, _ :: l => undef :: maskC fs l
  | none :: fs, v :: l => v :: maskC fs l
  | some (some false) :: fs, v :: l => v :: maskC fs l
  | some (some true) :: fs, v :: l => v :: maskC fs l
theorem fill_of {x y : Value} : ∀ (fs : List (Option (Option Bool))) (els new : List Value) (u : Nat → Value) (i : Nat), fs.length = new.length → maskC fs new = maskC fs (fillC fs els u x y i) → (∀ j, u (i + j) = new.getD j undef) → fs.length = els.length → fillC fs els u x y i = new
  | [], els, new, u, i, h1, h2, h3, h4 => by
    cases new with
    | nil => rfl
    | cons a b => simp at h1
  | f :: fs, [], new, u, i, h1, h2, h3, h4 => by simp at h4
  | f :: fs, v :: els, [], u, i, h1, h2, h3, h4 => by simp at h1
  | f :: fs, v :: els, a :: new, u, i, h1, h2, h3, h4 => by
    have ih := fill_of (x := x) (y := y) fs els new u (i + 1) (by simpa using h1)
    have h3' : ∀ j, u (i + 1 + j) = new.getD j undef := fun j => by have := h3 (j + 1); rw [show i + (j + 1) = i + 1 + j by omega] at this; rw [this]; rfl
    have h4' : fs.length = els.length := by simpa using h4
    cases f with
    | none =>
      simp only [maskC, fillC, List.cons.injEq] at h2 ⊢
      exact ⟨h2.1.symm, ih h2.2 h3' h4'⟩
    | some g =>
      cases g with
      | none =>
        simp only [maskC, fillC, List.cons.injEq] at h2 ⊢
        refine ⟨?_, ih h2.2 h3' h4'⟩
        have := h3 0
        simpa using this
      | some b =>
        cases b with
        | false =>
          simp only [maskC, fillC, List.cons.injEq] at h2 ⊢
          exact ⟨h2.1.symm, ih h2.2 h3' h4'⟩
        | true =>
          simp only [maskC, fillC, List.cons.injEq] at h2 ⊢
          exact ⟨h2.1.symm, ih h2.2 h3' h4'⟩
def EndC (fs : List (Option (Option Bool))) (els : List Value) (dfr : List Deferred) (rel : Nat → Value → Value → World → Prop) (n : Nat) (a : Act) (w : World) : Prop :=
  ∃ m, m < n ∧ ∃ u x y, rel m x y w ∧ a = ⟨(fillC fs els u x y 0).toArray, dfr⟩
/-- A flat check: lengths, and the slots that are kept. -/
def fitC (fs : List (Option (Option Bool))) (els new : List Value) (x y : Value) : Prop := (fs.length, fs.length, maskC fs new) = (new.length, els.length, maskC fs (fillC fs els (fun _ => undef) x y 0))
theorem mask_u {x y : Value} : ∀ (fs : List (Option (Option Bool))) (els : List Value) (u u' : Nat → Value) (i : Nat), maskC fs (fillC fs els u x y i) = maskC fs (fillC fs els u' x y i)
  | [], els, u, u', i => rfl
  | f :: fs, [], u, u', i => by cases f <;> rfl
  | f :: fs, v :: els, u, u', i => by
    have ih := mask_u (x := x) (y := y) fs els u u' (i + 1)
    cases f with
    | none => simp [maskC, fillC, ih]
    | some g =>
      cases g with
      | none => simp [maskC, fillC, ih]
      | some b => cases b <;> simp [maskC, fillC, ih]
theorem fitC.eq {fs : List (Option (Option Bool))} {els new : List Value} {x y : Value} (h : fitC fs els new x y) : fillC fs els (fun i => new.getD i undef) x y 0 = new := by
  unfold fitC at h
  injection h with h1 h
  injection h with h2 h3
  exact fill_of fs els new _ 0 h1 (h3.trans (mask_u _ _ _ _ _)) (fun j => by rw [Nat.zero_add]) h2
theorem EndC.of {fs : List (Option (Option Bool))} {els : List Value} {dfr : List Deferred} {rel : Nat → Value → Value → World → Prop} {n : Nat} {new : List Value} {w : World} (m : Nat) (x y : Value) (hf : fitC fs els new x y) (hm : m < n) (hr : rel m x y w) : EndC fs els dfr rel n ⟨new.toArray, dfr⟩ w :=
  ⟨m, hm, _, x, y, hr, by rw [hf.eq]⟩
theorem wp_loopC {P : Program} {c : Code} {Q : Exit → Act → World → Prop} {els : List Value} {dfr : List Deferred} {w : World} (fs : List (Option (Option Bool))) (rel : Nat → Value → Value → World → Prop) (n0 : Nat) (x0 y0 : Value) (hf : fitC fs els els x0 y0) (h0 : rel n0 x0 y0 w)
    (round : ∀ (n : Nat) (u : Nat → Value) (x y : Value) (wr : World) (J K : Act → World → Prop), rel n x y wr → (∀ a' w', EndC fs els dfr rel n a' w' → J a' w') → (∀ a' w', Met J a' w' → K a' w') → c.wp P (Exit.then K Q) ⟨(fillC fs els u x y 0).toArray, dfr⟩ wr) :
    (Code.loop c).wp P Q ⟨els.toArray, dfr⟩ w := by
  refine wp_loop_ghost (fun n a w => ∃ u x y, rel n x y w ∧ a = ⟨(fillC fs els u x y 0).toArray, dfr⟩) n0 ⟨_, x0, y0, h0, by rw [hf.eq]⟩ ?_
  rintro n a wr ⟨u, x, y, hr, rfl⟩
  exact round n u x y wr (EndC fs els dfr rel n) (EndC fs els dfr rel n) hr (fun _ _ q => q) (fun _ _ q => q)
def MeetC (fs : List (Option (Option Bool))) (els : List Value) (dfr : List Deferred) (rel : Value → Value → World → Prop) (a : Act) (w : World) : Prop := ∃ u x y, rel x y w ∧ a = ⟨(fillC fs els u x y 0).toArray, dfr⟩
theorem MeetC.of {fs : List (Option (Option Bool))} {els : List Value} {dfr : List Deferred} {rel : Value → Value → World → Prop} {new : List Value} {w : World} (x y : Value) (hf : fitC fs els new x y) (hr : rel x y w) : MeetC fs els dfr rel ⟨new.toArray, dfr⟩ w :=
  ⟨_, x, y, hr, by rw [hf.eq]⟩
theorem wp_cutC {P : Program} {s : Code} {K : Act → World → Prop} {Q' : Exit → Act → World → Prop} {els : List Value} {dfr : List Deferred} {w : World} (fs : List (Option (Option Bool))) (rel : Value → Value → World → Prop)
    (first : ∀ (J K' : Act → World → Prop), (∀ a' w', MeetC fs els dfr rel a' w' → J a' w') → (∀ a' w', Met J a' w' → K' a' w') → s.wp P (Exit.then K' Q') ⟨els.toArray, dfr⟩ w)
    (rest : ∀ (u : Nat → Value) (x y : Value) (wc : World), rel x y wc → K ⟨(fillC fs els u x y 0).toArray, dfr⟩ wc) : s.wp P (Exit.then K Q') ⟨els.toArray, dfr⟩ w :=
  wp_cut (MeetC fs els dfr rel) (fun a' w' ⟨u, x, y, hr, ha⟩ => by rw [ha]; exact rest u x y w' hr) first
end Go.Ord

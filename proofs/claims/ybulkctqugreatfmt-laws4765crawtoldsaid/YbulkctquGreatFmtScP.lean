/-
  Plainly: the breadth-first search of shortestCycle.
-/
import Derived.Test.YbulkctquGreatFmtTjP
namespace Go.Proofs.YbulkctquGreatFmt
open Go.ChangeShapes Go.WideShapes Go.ChangeAt Go.RowKit Go.Ord
set_option linter.unusedVariables false

/-- Found: X the nodes taken from the queue, Q those in it, Pa the parents; the outs of X's nodes are done, of the node at work v the first r. -/
structure BF (G : List (List Nat)) (P : Nat → Prop) (st : Nat) (X Q : List Nat) (Pa : List Int) : Prop where
  len : Pa.length = G.length
  hd : (X ++ Q)[0]? = some st
  nd : (X ++ Q).Nodup
  inn : ∀ v ∈ X ++ Q, v < G.length ∧ P v
  mem : ∀ v, v < G.length → (v ∈ X ++ Q ↔ ∃ u : Nat, Pa[v]? = some (u : Int))
  neg : ∀ v, v < G.length → v ∉ X ++ Q → Pa[v]? = some (-1)
  par : ∀ i v, (X ++ Q)[i]? = some v → v ≠ st → ∃ j u : Nat, j < i ∧ (X ++ Q)[j]? = some u ∧ Pa[v]? = some (u : Int) ∧ v ∈ outs G u
/-- The outs of these are done. -/
def BC (G : List (List Nat)) (P : Nat → Prop) (st : Nat) (X L : List Nat) : Prop := ∀ x ∈ X, ∀ w ∈ outs G x, P w → w ≠ st ∧ w ∈ L
def BR (G : List (List Nat)) (P : Nat → Prop) (st v r : Nat) (L : List Nat) : Prop := ∀ w ∈ (outs G v).take r, P w → w ≠ st ∧ w ∈ L
section
variable {G : List (List Nat)} {P : Nat → Prop} {st : Nat} {X Q : List Nat} {Pa : List Int}
theorem BF.start (hst : st < G.length) (hP : P st) : BF G P st [] [st] ((List.replicate G.length (-1)).set st (st : Int)) := by
  refine ⟨by simp, by simp, by simp, fun v hv => by simp at hv; subst hv; exact ⟨hst, hP⟩, fun v hv => ?_, fun v hv hn => ?_, fun i v h hne => ?_⟩
  · constructor
    · intro h; simp at h; subst h
      exact ⟨v, by rw [List.getElem?_set_self (by simpa using hv)]⟩
    · rintro ⟨u, hu⟩
      by_cases e : st = v
      · simp [e]
      · rw [List.getElem?_set_ne e, List.getElem?_replicate, if_pos hv] at hu
        injection hu with hu; omega
  · have e : st ≠ v := fun e => hn (by simp [e])
    rw [List.getElem?_set_ne e, List.getElem?_replicate, if_pos hv]
  · have := List.mem_of_getElem? h
    simp at this; exact absurd this hne
/-- While something is missing there is something in the queue. -/
theorem BF.more (h : BF G P st X Q Pa) (hc : BC G P st X (X ++ Q)) (hy : ∃ y, y ≠ st ∧ RI G P st y ∧ RI G P y st) : Q ≠ [] := by
  intro e
  subst e
  rw [List.append_nil] at hc
  obtain ⟨y, y1, y2, y3⟩ := hy
  have h0 : st ∈ X := by have := List.mem_of_getElem? h.hd; simpa using this
  have key : ∀ a b, RI G P a b → a ∈ X → b ∈ X ∧ (a = b ∨ b ≠ st) := by
    intro a b hab
    induction hab with
    | refl _ => intro q; exact ⟨q, .inl rfl⟩
    | @step a c b p1 p2 p3 ih =>
      intro q
      obtain ⟨q1, q2⟩ := hc _ q _ p2 p3.fst
      obtain ⟨r1, r2⟩ := ih q2
      refine ⟨r1, .inr ?_⟩
      rcases r2 with rfl | r2
      · exact q1
      · exact r2
  have hyX := (key st y y2 h0).1
  rcases (key y st y3 hyX).2 with q | q
  · exact y1 q
  · exact q rfl
theorem BF.pop {v : Nat} (h : BF G P st X (v :: Q) Pa) : BF G P st (X ++ [v]) Q Pa := by
  have e : X ++ v :: Q = (X ++ [v]) ++ Q := by simp
  obtain ⟨a, b, c, d, e1, f, g⟩ := h
  rw [e] at b c d e1 f g
  exact ⟨a, b, c, d, e1, f, g⟩
theorem BF.short (h : BF G P st X Q Pa) : X.length + Q.length ≤ G.length := by
  have := nodup_len G.length (X ++ Q) h.nd (fun y hy => (h.inn y hy).1)
  simpa using this
theorem BC.pop {v : Nat} (h : BC G P st X (X ++ v :: Q)) : BC G P st X ((X ++ [v]) ++ Q) := by
  have e : X ++ v :: Q = (X ++ [v]) ++ Q := by simp
  rw [e] at h; exact h
theorem BR.zero (v : Nat) (L : List Nat) : BR G P st v 0 L := fun w hw => by simp at hw
theorem BR.pass {v r w : Nat} {L : List Nat} (h : BR G P st v r L) (hw : (outs G v)[r]? = some w) (hd : P w → w ≠ st ∧ w ∈ L) : BR G P st v (r + 1) L := fun x hx px => by
  rw [List.take_add_one, hw] at hx
  rcases List.mem_append.mp hx with hx | hx
  · exact h x hx px
  · simp at hx; subst hx; exact hd px
theorem BR.grow {v r w : Nat} {L : List Nat} (h : BR G P st v r L) : BR G P st v r (L ++ [w]) := fun x hx px => by
  obtain ⟨a, b⟩ := h x hx px
  exact ⟨a, by simp [b]⟩
theorem BC.grow {w : Nat} {L : List Nat} (h : BC G P st X L) : BC G P st X (L ++ [w]) := fun x hx y hy px => by
  obtain ⟨a, b⟩ := h x hx y hy px
  exact ⟨a, by simp [b]⟩
theorem BC.close {v : Nat} {L : List Nat} (h : BC G P st X L) (hr : BR G P st v (outs G v).length L) : BC G P st (X ++ [v]) L := fun x hx y hy py => by
  rcases List.mem_append.mp hx with hx | hx
  · exact h x hx y hy py
  · simp at hx; subst hx
    exact hr y (by rw [List.take_length]; exact hy) py
theorem BF.push {v w : Nat} (h : BF G P st X Q Pa) (hv : v ∈ X) (hw : w < G.length) (hP : P w) (hvw : w ∈ outs G v) (hn : w ∉ X ++ Q) : BF G P st X (Q ++ [w]) (Pa.set w (v : Int)) := by
  have e : X ++ (Q ++ [w]) = (X ++ Q) ++ [w] := by simp
  have hl := h.len
  refine ⟨by simp [hl], ?_, ?_, fun x hx => ?_, fun x hx => ?_, fun x hx hnx => ?_, fun i x hi hne => ?_⟩
  · rw [e, List.getElem?_append_left (by have := (List.getElem?_eq_some_iff.mp h.hd).1; exact this)]; exact h.hd
  · rw [e, List.nodup_append]
    exact ⟨h.nd, by simp, fun a ha b hb q => by simp at hb; subst hb; subst q; exact hn ha⟩
  · rw [e] at hx
    rcases List.mem_append.mp hx with hx | hx
    · exact h.inn x hx
    · simp at hx; subst hx; exact ⟨hw, hP⟩
  · rw [e]
    by_cases q : w = x
    · subst q
      exact ⟨fun _ => ⟨v, by rw [List.getElem?_set_self (by omega)]⟩, fun _ => by simp⟩
    · rw [List.getElem?_set_ne q, ← h.mem x hx]
      constructor
      · intro k
        rcases List.mem_append.mp k with k | k
        · exact k
        · simp at k; exact absurd k.symm q
      · intro k; exact List.mem_append.mpr (.inl k)
  · rw [e] at hnx
    have q : w ≠ x := fun q => hnx (by simp [q])
    rw [List.getElem?_set_ne q]
    exact h.neg x hx (fun k => hnx (List.mem_append.mpr (.inl k)))
  · rw [e] at hi ⊢
    by_cases hil : i < (X ++ Q).length
    · rw [List.getElem?_append_left hil] at hi
      obtain ⟨j, u, j1, j2, j3, j4⟩ := h.par i x hi hne
      refine ⟨j, u, j1, by rw [List.getElem?_append_left (by omega)]; exact j2, ?_, j4⟩
      rw [List.getElem?_set_ne (show w ≠ x from fun q => hn (by rw [q]; exact List.mem_of_getElem? hi))]
      exact j3
    · rw [List.getElem?_append_right (by omega)] at hi
      have hx := List.mem_of_getElem? hi
      simp at hx; subst hx
      obtain ⟨j, hj⟩ := List.getElem?_of_mem (List.mem_append.mpr (.inl hv) : v ∈ X ++ Q)
      have hjl := (List.getElem?_eq_some_iff.mp hj).1
      exact ⟨j, v, by omega, by rw [List.getElem?_append_left hjl]; exact hj, by rw [List.getElem?_set_self (by omega)], hvw⟩
end
/-- Linked backwards: each node comes by an arc of the next. -/
def Lnk (G : List (List Nat)) (l : List Nat) : Prop := ∀ k a b, l[k]? = some a → l[k + 1]? = some b → a ∈ outs G b
theorem Lnk.snoc {G : List (List Nat)} {l : List Nat} {a b : Nat} (h : Lnk G (l ++ [a])) (hab : a ∈ outs G b) : Lnk G (l ++ [a] ++ [b]) := by
  intro k x y hx hy
  by_cases hk : k + 1 < (l ++ [a]).length
  · rw [List.getElem?_append_left (by omega)] at hx
    rw [List.getElem?_append_left hk] at hy
    exact h k x y hx hy
  · have hl : (l ++ [a] ++ [b]).length = l.length + 2 := by simp
    have hk2 := (List.getElem?_eq_some_iff.mp hy).1
    have e : k = l.length := by simp at hk; omega
    subst e
    simp at hx hy
    subst hx; subst hy; exact hab
/-- The cycle. -/
structure Cyc (G : List (List Nat)) (st : Nat) (K : List Nat) : Prop where
  hd : K[0]? = some st
  nxt : ∀ k a b, K[k]? = some a → K[k + 1]? = some b → b ∈ outs G a
  lst : ∀ a, K[K.length - 1]? = some a → st ∈ outs G a
  inn : ∀ a ∈ K, a < G.length
theorem Cyc.of {G : List (List Nat)} {st v : Nat} {l : List Nat} (h : Lnk G (l ++ [st])) (h0 : (l ++ [st])[0]? = some v) (hv : st ∈ outs G v) (hi : ∀ a ∈ l ++ [st], a < G.length) : Cyc G st (l ++ [st]).reverse := by
  have hl : (l ++ [st]).length = l.length + 1 := by simp
  have rv : ∀ k, k < l.length + 1 → (l ++ [st]).reverse[k]? = (l ++ [st])[l.length - k]? := fun k hk => by
    rw [List.getElem?_reverse (by omega), hl, show l.length + 1 - 1 - k = l.length - k by omega]
  refine ⟨by rw [rv 0 (by omega)]; simp, fun k a b ha hb => ?_, fun a ha => ?_, fun a ha => hi a (by rw [List.mem_reverse] at ha; exact ha)⟩
  · have k1 := (List.getElem?_eq_some_iff.mp hb).1
    rw [List.length_reverse, hl] at k1
    rw [rv k (by omega)] at ha
    rw [rv (k + 1) (by omega)] at hb
    refine h (l.length - (k + 1)) b a hb ?_
    rw [show l.length - (k + 1) + 1 = l.length - k by omega]; exact ha
  · rw [List.length_reverse, hl, rv _ (by omega), show l.length - (l.length + 1 - 1) = 0 by omega, h0] at ha
    injection ha with ha; subst ha; exact hv
/-- Turning a list about, i swaps done. -/
def revI (l : List Nat) (i : Nat) : List Nat := (List.range l.length).map (fun k => if k < i ∨ l.length - 1 - k < i then l.getD (l.length - 1 - k) 0 else l.getD k 0)
theorem revI_len (l : List Nat) (i : Nat) : (revI l i).length = l.length := by simp [revI]
theorem revI_at {l : List Nat} {i k : Nat} (hk : k < l.length) : (revI l i)[k]? = some (if k < i ∨ l.length - 1 - k < i then l.getD (l.length - 1 - k) 0 else l.getD k 0) := by
  simp [revI, hk]
theorem revI_zero (l : List Nat) : revI l 0 = l := by
  apply List.ext_getElem?
  intro k
  by_cases hk : k < l.length
  · rw [revI_at hk, if_neg (by omega)]; simp [hk]
  · rw [List.getElem?_eq_none (by rw [revI_len]; omega), List.getElem?_eq_none (by omega)]
theorem revI_done (l : List Nat) (i j : Nat) (hij : i + j + 1 = l.length) (h : ¬ i < j) (h2 : i ≤ j + 1) : revI l i = l.reverse := by
  apply List.ext_getElem?
  intro k
  by_cases hk : k < l.length
  · rw [revI_at hk, List.getElem?_reverse hk]
    by_cases c : k < i ∨ l.length - 1 - k < i
    · rw [if_pos c]; simp [show l.length - 1 - k < l.length by omega]
    · rw [if_neg c]
      have : l.length - 1 - k = k := by omega
      rw [this]; simp [hk]
  · rw [List.getElem?_eq_none (by rw [revI_len]; omega), List.getElem?_eq_none (by simp; omega)]
theorem revI_step (l : List Nat) (i j : Nat) (hij : i + j + 1 = l.length) (h : i < j) : ((revI l i).set i (l.getD j 0)).set j (l.getD i 0) = revI l (i + 1) := by
  apply List.ext_getElem?
  intro k
  by_cases hk : k < l.length
  · rw [revI_at hk]
    by_cases c1 : j = k
    · subst c1
      rw [List.getElem?_set_self (by simp [revI_len]; omega), if_pos (by omega), show l.length - 1 - j = i by omega]
    · rw [List.getElem?_set_ne c1]
      by_cases c2 : i = k
      · subst c2
        rw [List.getElem?_set_self (by simp [revI_len]; omega), if_pos (by omega), show l.length - 1 - i = j by omega]
      · rw [List.getElem?_set_ne c2, revI_at hk]
        by_cases c : k < i ∨ l.length - 1 - k < i
        · rw [if_pos c, if_pos (by omega)]
        · rw [if_neg c, if_neg (by omega)]
  · rw [List.getElem?_eq_none (by simp [revI_len]; omega), List.getElem?_eq_none (by rw [revI_len]; omega)]
theorem revI_mid {l : List Nat} {i j : Nat} (hij : i + j + 1 = l.length) (h : i < j) : (revI l i)[i]? = some (l.getD i 0) ∧ (revI l i)[j]? = some (l.getD j 0) := by
  constructor
  · rw [revI_at (by omega), if_neg (by omega)]
  · rw [revI_at (by omega), if_neg (by omega)]
end Go.Proofs.YbulkctquGreatFmt

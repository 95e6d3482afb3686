/-
  Maps of rows; all ways of all choices.
-/
import Derived.Test.YbulkctquGreatFmtSeE
import Derived.Test.YbulkctquGreatFmtKlA
import Derived.Test.YbulkctquGreatFmtCompE
import Derived.Test.YbulkctquGreatFmtCho
namespace Go.Proofs.YbulkctquGreatFmt
open Go.ChangeShapes Go.WideShapes Go.ChangeAt Go.RowKit Go.Ord
set_option linter.unusedVariables false

/-- A map from labels to rows of its own. -/
structure MRow (b : Nat) (FP : List Nat) (S : Nat → Option SV) (f X : Nat → List Nat) (w : World) : Prop where
  m : MapAt w (ik .i64) b (fun n => (S n).map SV.val)
  r : ∀ L s, S L = some s → s.n = (X L).length ∧ Sl w 3 1 s.a s.n s.c (f L) ((X L).map nI) ∧ (∀ k ∈ f L, k ∈ FP) ∧ X L ≠ []
  z : ∀ L, S L = none → X L = []
  d : ∀ L L', L ≠ L' → S L ≠ none → S L' ≠ none → ∀ k ∈ f L, k ∉ f L'
  b : b ∉ FP
  lt : ∀ k ∈ FP, k < w.heap.size
section
variable {b : Nat} {FP : List Nat} {S : Nat → Option SV} {f X : Nat → List Nat} {w w' : World}
theorem MRow.start {w : World} {b : Nat} (h : MapAt w (ik .i64) b (fun _ => none)) : MRow b [] (fun _ => none) (fun _ => []) (fun _ => []) w :=
  ⟨h, fun L s hs => (by cases hs), fun _ _ => rfl, fun L L' _ h1 => absurd rfl h1, by simp, by simp⟩
theorem MRow.keep (h : MRow b FP S f X w) {T : List Nat} (hu : Upd T w w') (hn : ∀ k ∈ b :: FP, k ∉ T) : MRow b FP S f X w' :=
  ⟨h.m.keep hu (hn b (by simp)), fun L s hs => by
    obtain ⟨a1, a2, a3, a4⟩ := h.r L s hs
    exact ⟨a1, a2.keep hu (fun k hk => hn k (by simp [a3 k hk])), a3, a4⟩, h.z, h.d, h.b, fun k hk => Nat.lt_of_lt_of_le (h.lt k hk) hu.size⟩
theorem MRow.grow (h : MRow b FP S f X w) (hu : Upd [] w w') : MRow b FP S f X w' := h.keep hu (by simp)
/-- The row of a label, or none. -/
theorem MRow.row (h : MRow b FP S f X w) (L : Nat) : ∃ (s : SV) (fL : List Nat), ((S L).map SV.val).getD (.slice none 0 0) = .slice s.a s.n s.c ∧ s.n = (X L).length ∧ Sl w 3 1 s.a s.n s.c fL ((X L).map nI) ∧ (∀ k ∈ fL, k ∈ FP) ∧ (∀ L', L' ≠ L → S L' ≠ none → ∀ k ∈ fL, k ∉ f L') ∧ (X L = [] → s.a = none) ∧ (X L ≠ [] → ∃ g, s.a = some ⟨g, 0, none⟩) := by
  cases hs : S L with
  | none =>
    have hx := h.z L hs
    refine ⟨⟨none, 0, 0⟩, [], rfl, by rw [hx]; rfl, by rw [hx]; exact Sl.empty _ _ _, by simp, by simp, fun _ => rfl, fun hne => absurd hx hne⟩
  | some s =>
    obtain ⟨a1, a2, a3, a4⟩ := h.r L s hs
    refine ⟨s, f L, rfl, a1, a2, a3, fun L' hl h1 k hk => h.d L L' (Ne.symm hl) (by rw [hs]; simp) h1 k hk, fun hx => absurd hx a4, fun _ => ?_⟩
    obtain ⟨g, e, _⟩ := a2.has (by rw [a1]; exact List.length_pos_iff.mpr a4)
    exact ⟨g, e⟩
/-- One more in the row of a label. -/
theorem MRow.push (h : MRow b FP S f X w) {L x : Nat} {s : SV} {fL : List Nat} {gX cX : Nat} {w1 w2 : World} (h1 : s.n = (X L).length) (h3 : ∀ k ∈ fL, k ∈ FP) (h4 : ∀ L', L' ≠ L → S L' ≠ none → ∀ k ∈ fL, k ∉ f L')
    (r1 : Sl w1 3 1 (some ⟨gX, 0, none⟩) (s.n + 1) cX [gX] ((X L).map nI ++ [.int .i64 x])) (r2 : Upd fL w w1) (r3 : gX ∈ fL ∨ w.heap.size ≤ gX)
    (p1 : MapAt w2 (ik .i64) b (fun n => if n = L then some (.slice (some ⟨gX, 0, none⟩) (s.n + 1) cX) else (S n).map SV.val)) (p2 : Upd [b] w1 w2) :
    MRow b (gX :: FP) (fun n => if n = L then some ⟨some ⟨gX, 0, none⟩, s.n + 1, cX⟩ else S n) (fun n => if n = L then [gX] else f n) (fun n => if n = L then X L ++ [x] else X n) w2 ∧ Upd (b :: FP) w w2 := by
  have hb : b < w.heap.size := h.m.lt
  have gb : gX ≠ b := by
    rintro rfl
    rcases r3 with z | z
    · exact h.b (h3 _ z)
    · omega
  have bF : b ∉ fL := fun hm => h.b (h3 b hm)
  have og : ∀ L', L' ≠ L → S L' ≠ none → gX ∉ f L' := fun L' hl hs hm => by
    rcases r3 with z | z
    · exact h4 L' hl hs gX z hm
    · cases hq : S L' with
      | none => exact hs hq
      | some s' =>
        have := h.lt gX ((h.r L' s' hq).2.2.1 gX hm); omega
  refine ⟨⟨?_, ?_, ?_, ?_, ?_, ?_⟩, (r2.mono (fun k hk => .inl (by simp [h3 k hk]))).trans p2 (fun k hk => .inl (by simp at hk; simp [hk]))⟩
  · refine p1.congr (fun n => ?_)
    by_cases e : n = L
    · simp [e, SV.val]
    · simp [e]
  · intro L' s' hs'
    by_cases e : L' = L
    · subst e
      simp only [if_true, Option.some.injEq] at hs'
      subst hs'
      refine ⟨by simp [h1], ?_, by simp, by simp⟩
      have := r1.keep p2 (by simpa using gb)
      simpa [nI] using this
    · simp only [if_neg e] at hs' ⊢
      obtain ⟨a1, a2, a3, a4⟩ := h.r L' s' hs'
      refine ⟨a1, (a2.keep r2 (fun k hk hm => h4 L' e (by rw [hs']; simp) k hm hk)).keep p2 (fun k hk hm => ?_), fun k hk => by simp [a3 k hk], a4⟩
      simp at hm; subst hm; exact h.b (a3 k hk)
  · intro L' hs'
    by_cases e : L' = L
    · subst e; simp at hs'
    · simp only [if_neg e] at hs' ⊢; exact h.z L' hs'
  · intro L1 L2 hne s1 s2 k hk
    by_cases e1 : L1 = L
    · subst e1
      have e2 : L2 ≠ L1 := Ne.symm hne
      simp only [if_true, List.mem_singleton] at hk
      simp only [if_neg e2] at s2 ⊢
      subst hk
      exact og L2 e2 s2
    · simp only [if_neg e1] at s1 hk
      by_cases e2 : L2 = L
      · subst e2
        simp only [if_true, List.mem_singleton]
        intro e; subst e
        exact og L1 e1 s1 hk
      · simp only [if_neg e2] at s2 ⊢
        exact h.d L1 L2 hne s1 s2 k hk
  · simp only [List.mem_cons, not_or]; exact ⟨Ne.symm gb, h.b⟩
  · intro k hk
    have z1 := r2.size
    have z2 := p2.size
    simp only [List.mem_cons] at hk
    rcases hk with rfl | hk
    · have := r1.lt k (by simp); omega
    · have := h.lt k hk; omega
end
/-- All ways of all choices. -/
def allG (G : List (List Nat)) (cs : List Cho) : List (List Nat) := cs.foldl (fun G C => pickG (pickG G C.a0) C.a1) G
theorem allG_len : ∀ (cs : List Cho) (G : List (List Nat)), (allG G cs).length = G.length
  | [], G => rfl
  | C :: cs, G => by rw [show allG G (C :: cs) = allG (pickG (pickG G C.a0) C.a1) cs from rfl, allG_len cs, pick_len, pick_len]
theorem allG_old : ∀ (cs : List Cho) (G : List (List Nat)) (x y : Nat), y ∈ outs G x → y ∈ outs (allG G cs) x
  | [], G, x, y, h => h
  | C :: cs, G, x, y, h => allG_old cs _ x y (pick_of _ _ _ _ _ (pick_of _ _ _ _ _ h))
theorem allG_new : ∀ (cs : List Cho) (G : List (List Nat)) (C : Cho), C ∈ cs → (∀ t ∈ C.a0.f, t < G.length → C.a0.i ∈ outs (allG G cs) t) ∧ (∀ t ∈ C.a1.f, t < G.length → C.a1.i ∈ outs (allG G cs) t)
  | [], G, C, h => by simp at h
  | D :: cs, G, C, h => by
    simp only [List.mem_cons] at h
    rcases h with rfl | h
    · exact ⟨fun t ht hl => allG_old cs _ _ _ (pick_of _ _ _ _ _ (pick_new _ _ _ _ ht hl)), fun t ht hl => allG_old cs _ _ _ (pick_new _ _ _ _ ht (by rw [pick_len]; exact hl))⟩
    · obtain ⟨h1, h2⟩ := allG_new cs (pickG (pickG G D.a0) D.a1) C h
      exact ⟨fun t ht hl => h1 t ht (by rw [pick_len, pick_len]; exact hl), fun t ht hl => h2 t ht (by rw [pick_len, pick_len]; exact hl)⟩
theorem allG_mem : ∀ (cs : List Cho) (G : List (List Nat)) (x y : Nat), y ∈ outs (allG G cs) x → y ∈ outs G x ∨ ∃ C ∈ cs, y = C.a0.i ∨ y = C.a1.i
  | [], G, x, y, h => .inl h
  | C :: cs, G, x, y, h => by
    rcases allG_mem cs _ x y h with h1 | ⟨D, h1, h2⟩
    · rcases pick_mem _ _ _ _ _ h1 with h3 | ⟨_, h3⟩
      · rcases pick_mem _ _ _ _ _ h3 with h4 | ⟨_, h4⟩
        · exact .inl h4
        · exact .inr ⟨C, by simp, .inl h4⟩
      · exact .inr ⟨C, by simp, .inr h3⟩
    · exact .inr ⟨D, by simp [h1], h2⟩
theorem allG_snoc (G : List (List Nat)) (cs : List Cho) (C : Cho) : allG G (cs ++ [C]) = pickG (pickG (allG G cs) C.a0) C.a1 := by simp [allG]
theorem allG_wt : ∀ (cs : List Cho) (G : List (List Nat)), (∀ C ∈ cs, C.a0.f.length ≤ 100 ∧ C.a1.f.length ≤ 100) → wt (allG G cs) ≤ wt G + 200 * cs.length
  | [], G, _ => by simp [allG]
  | C :: cs, G, h => by
    have h1 := allG_wt cs (pickG (pickG G C.a0) C.a1) (fun D hD => h D (by simp [hD]))
    have h2 := arcsTo_wt C.a0.i C.a0.f G
    have h3 := arcsTo_wt C.a1.i C.a1.f (pickG G C.a0)
    obtain ⟨h4, h5⟩ := h C (by simp)
    show wt (allG (pickG (pickG G C.a0) C.a1) cs) ≤ _
    unfold pickG at *
    simp only [List.length_cons]
    omega
end Go.Proofs.YbulkctquGreatFmt

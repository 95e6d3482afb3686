/-
  Plainly: the history that the law records, and that it is one of a serial run.
-/
import Derived.Test.YbulkctquGreatFmtPlB
namespace Go.Proofs.YbulkctquGreatFmt
open Go.ChangeShapes Go.WideShapes Go.ChangeAt Go.RowKit Go.Ord
set_option linter.unusedVariables false

structure CE where
  w : Bool
  x : Nat
structure CT where
  s : Nat
  ab : Bool
  evs : List CE
structure ES where
  cur : Nat → Option Nat
  ver : Nat
def curSet (c : Nat → Option Nat) (y v : Nat) : Nat → Option Nat := fun z => if z = y then some v else c z
def esStep (ab : Bool) (st : ES) (x : CE) : ES := if x.w then ⟨if ab then st.cur else curSet st.cur (x.x % 3) (st.ver + 1), st.ver + 1⟩ else st
def rdOf (y : Nat) : Option Nat → Ev
  | some c => ⟨0, y, c, false⟩
  | none => ⟨0, y, 0, true⟩
def evOf (ab : Bool) (st : ES) (x : CE) : Ev := if x.w then ⟨1, x.x % 3, st.ver + 1, false⟩ else if ab then ⟨0, x.x % 3, 0, true⟩ else rdOf (x.x % 3) (st.cur (x.x % 3))
def esAt (ab : Bool) (st : ES) (l : List CE) : ES := l.foldl (esStep ab) st
def evsAt (ab : Bool) : ES → List CE → List Ev
  | _, [] => []
  | st, x :: r => evOf ab st x :: evsAt ab (esStep ab st x) r
theorem evsAt_snoc (ab : Bool) (x : CE) : ∀ (l : List CE) (st : ES), evsAt ab st (l ++ [x]) = evsAt ab st l ++ [evOf ab (esAt ab st l) x]
  | [], st => rfl
  | y :: l, st => by
    show evOf ab st y :: evsAt ab (esStep ab st y) (l ++ [x]) = _
    rw [evsAt_snoc ab x l]; rfl
theorem esAt_snoc (ab : Bool) (x : CE) (l : List CE) (st : ES) : esAt ab st (l ++ [x]) = esStep ab (esAt ab st l) x := by simp [esAt]
theorem evsAt_len (ab : Bool) : ∀ (l : List CE) (st : ES), (evsAt ab st l).length = l.length
  | [], _ => rfl
  | x :: l, st => by simp [evsAt, evsAt_len ab l]
structure HS where
  es : ES
  hs : List (List Tx)
def hStep (h : HS) (t : CT) : HS := ⟨esAt t.ab h.es t.evs, h.hs.set (t.s % 3) (h.hs.getD (t.s % 3) [] ++ [⟨evsAt t.ab h.es t.evs, !t.ab⟩])⟩
def h00 : HS := ⟨⟨fun _ => none, 0⟩, [[], [], []]⟩
def hist (ts : List CT) : HS := ts.foldl hStep h00

/-- What one transaction's events say. -/
structure TL (ab : Bool) (st : ES) (L : List Ev) (st' : ES) : Prop where
  ver : st.ver ≤ st'.ver ∧ st'.ver ≤ st.ver + L.length
  base : ∀ (e : Nat) (x : Ev), L[e]? = some x → (x.k = 0 ∨ x.k = 1) ∧ x.x < 3 ∧ (x.i = true → x.v = 0)
  wr : ∀ (e : Nat) (x : Ev), L[e]? = some x → x.k = 1 → x.i = false ∧ st.ver < x.v ∧ x.v ≤ st'.ver
  gr : ∀ (e : Nat) (x : Ev) (e' : Nat) (x' : Ev), L[e]? = some x → L[e']? = some x' → x.k = 1 → x'.k = 1 → e < e' → x.v < x'.v
  rdA : ab = true → ∀ (e : Nat) (x : Ev), L[e]? = some x → x.k = 0 → x.i = true
  rd : ∀ (e : Nat) (x : Ev), L[e]? = some x → x.k = 0 → x.i = false →
    (∃ (e' : Nat) (x' : Ev), e' < e ∧ L[e']? = some x' ∧ x'.k = 1 ∧ x'.x = x.x ∧ x'.v = x.v ∧ ∀ (e2 : Nat) (x2 : Ev), e2 < e → L[e2]? = some x2 → x2.k = 1 → x2.x = x.x → x2.v ≤ x.v) ∨
    (st.cur x.x = some x.v ∧ ∀ (e2 : Nat) (x2 : Ev), e2 < e → L[e2]? = some x2 → x2.k = 1 → x2.x ≠ x.x)
  ri : ab = false → ∀ (e : Nat) (x : Ev), L[e]? = some x → x.k = 0 → x.i = true → st.cur x.x = none ∧ ∀ (e2 : Nat) (x2 : Ev), e2 < e → L[e2]? = some x2 → x2.k = 1 → x2.x ≠ x.x
  cur : ab = false → ∀ y, (st'.cur y = st.cur y ∧ ∀ (e : Nat) (x : Ev), L[e]? = some x → x.k = 1 → x.x ≠ y) ∨
    (∃ (e : Nat) (x : Ev), L[e]? = some x ∧ x.k = 1 ∧ x.x = y ∧ st'.cur y = some x.v ∧ ∀ (e2 : Nat) (x2 : Ev), L[e2]? = some x2 → x2.k = 1 → x2.x = y → x2.v ≤ x.v)
  curA : ab = true → st'.cur = st.cur
theorem snoc_at {α : Type} {L : List α} {z x : α} {e : Nat} (h : (L ++ [z])[e]? = some x) : L[e]? = some x ∨ (e = L.length ∧ x = z) := by
  by_cases c : e < L.length
  · rw [List.getElem?_append_left c] at h; exact .inl h
  · have hl := (List.getElem?_eq_some_iff.mp h).1
    simp at hl
    have : e = L.length := by omega
    subst this
    simp at h
    exact .inr ⟨rfl, h.symm⟩
theorem at_snoc {α : Type} {L : List α} {z x : α} {e : Nat} (h : L[e]? = some x) : (L ++ [z])[e]? = some x := by
  rw [List.getElem?_append_left (List.getElem?_eq_some_iff.mp h).1]; exact h
theorem at_lt {α : Type} {L : List α} {x : α} {e : Nat} (h : L[e]? = some x) : e < L.length := (List.getElem?_eq_some_iff.mp h).1
theorem TL.start (ab : Bool) (st : ES) : TL ab st [] st := by
  refine ⟨⟨Nat.le_refl _, Nat.le_refl _⟩, ?_, ?_, ?_, ?_, ?_, ?_, fun _ y => .inl ⟨rfl, ?_⟩, fun _ => rfl⟩ <;> intros <;> simp_all
theorem TL.write {ab : Bool} {st st' : ES} {L : List Ev} (h : TL ab st L st') {y : Nat} (hy : y < 3) : TL ab st (L ++ [⟨1, y, st'.ver + 1, false⟩]) ⟨if ab then st'.cur else curSet st'.cur y (st'.ver + 1), st'.ver + 1⟩ := by
  obtain ⟨v1, v2⟩ := h.ver
  have wn : ∀ (e : Nat) (x : Ev), L[e]? = some x → x.k = 1 → x.v ≤ st'.ver := fun e x q1 q2 => (h.wr e x q1 q2).2.2
  refine ⟨by simp; omega, fun e x hx => ?_, fun e x hx hk => ?_, fun e x e' x' hx hx' hk hk' hlt => ?_, fun ha e x hx hk => ?_, fun e x hx hk hi => ?_, fun ha e x hx hk hi => ?_, fun ha z => ?_, fun ha => ?_⟩
  · rcases snoc_at hx with hx | ⟨_, rfl⟩
    · exact h.base e x hx
    · exact ⟨.inr rfl, hy, by simp⟩
  · rcases snoc_at hx with hx | ⟨_, rfl⟩
    · obtain ⟨a, b, c⟩ := h.wr e x hx hk
      exact ⟨a, b, by simp; omega⟩
    · exact ⟨rfl, by simp; omega, by simp⟩
  · rcases snoc_at hx with hx | ⟨h1, rfl⟩
    · rcases snoc_at hx' with hx' | ⟨_, rfl⟩
      · exact h.gr e x e' x' hx hx' hk hk' hlt
      · have := wn e x hx hk; simp; omega
    · have := at_lt hx'; simp at this; omega
  · rcases snoc_at hx with hx | ⟨_, rfl⟩
    · exact h.rdA ha e x hx hk
    · simp at hk
  · rcases snoc_at hx with hx | ⟨_, rfl⟩
    · have hl := at_lt hx
      rcases h.rd e x hx hk hi with ⟨e', x', q1, q2, q3, q4, q5, q6⟩ | ⟨q1, q2⟩
      · refine .inl ⟨e', x', q1, at_snoc q2, q3, q4, q5, fun e2 x2 r1 r2 => ?_⟩
        rcases snoc_at r2 with r2 | ⟨r2, _⟩
        · exact q6 e2 x2 r1 r2
        · omega
      · refine .inr ⟨q1, fun e2 x2 r1 r2 => ?_⟩
        rcases snoc_at r2 with r2 | ⟨r2, _⟩
        · exact q2 e2 x2 r1 r2
        · omega
    · simp at hk
  · rcases snoc_at hx with hx | ⟨_, rfl⟩
    · have hl := at_lt hx
      obtain ⟨q1, q2⟩ := h.ri ha e x hx hk hi
      refine ⟨q1, fun e2 x2 r1 r2 => ?_⟩
      rcases snoc_at r2 with r2 | ⟨r2, _⟩
      · exact q2 e2 x2 r1 r2
      · omega
    · simp at hk
  · rw [ha]
    simp only [Bool.false_eq_true, if_false]
    by_cases c : z = y
    · subst c
      refine .inr ⟨L.length, ⟨1, z, st'.ver + 1, false⟩, by simp, rfl, rfl, by simp [curSet], fun e2 x2 r1 r2 r3 => ?_⟩
      rcases snoc_at r1 with r1 | ⟨_, rfl⟩
      · have := wn e2 x2 r1 r2; simp; omega
      · exact Nat.le_refl _
    · rcases h.cur ha z with ⟨q1, q2⟩ | ⟨e, x, q1, q2, q3, q4, q5⟩
      · refine .inl ⟨by simp [curSet, c, q1], fun e x r1 r2 => ?_⟩
        rcases snoc_at r1 with r1 | ⟨_, rfl⟩
        · exact q2 e x r1 r2
        · exact fun q => c q.symm
      · refine .inr ⟨e, x, at_snoc q1, q2, q3, by simp [curSet, c, q4], fun e2 x2 r1 r2 r3 => ?_⟩
        rcases snoc_at r1 with r1 | ⟨_, rfl⟩
        · exact q5 e2 x2 r1 r2 r3
        · exact absurd r3.symm c
  · rw [ha]; simp only [if_true]; exact h.curA ha
theorem TL.read {ab : Bool} {st st' : ES} {L : List Ev} (h : TL ab st L st') {x0 : Ev} (hk0 : x0.k = 0) (hy : x0.x < 3) (hi0 : x0.i = true → x0.v = 0) (hA : ab = true → x0.i = true) (hr : x0.i = false → st'.cur x0.x = some x0.v) (hn : ab = false → x0.i = true → st'.cur x0.x = none) : TL ab st (L ++ [x0]) st' := by
  obtain ⟨v1, v2⟩ := h.ver
  have drop : ∀ (e2 : Nat) (x2 : Ev), (L ++ [x0])[e2]? = some x2 → x2.k = 1 → L[e2]? = some x2 := by
    intro e2 x2 r1 r2
    rcases snoc_at r1 with r1 | ⟨_, rfl⟩
    · exact r1
    · omega
  refine ⟨by simp; omega, fun e x hx => ?_, fun e x hx hk => h.wr e x (drop e x hx hk) hk, fun e x e' x' hx hx' hk hk' hlt => h.gr e x e' x' (drop e x hx hk) (drop e' x' hx' hk') hk hk' hlt, fun ha e x hx hk => ?_, fun e x hx hk hi => ?_, fun ha e x hx hk hi => ?_, fun ha z => ?_, h.curA⟩
  · rcases snoc_at hx with hx | ⟨_, rfl⟩
    · exact h.base e x hx
    · exact ⟨.inl hk0, hy, hi0⟩
  · rcases snoc_at hx with hx | ⟨_, rfl⟩
    · exact h.rdA ha e x hx hk
    · exact hA ha
  · rcases snoc_at hx with hx | ⟨he, rfl⟩
    · have hl := at_lt hx
      rcases h.rd e x hx hk hi with ⟨e', x', q1, q2, q3, q4, q5, q6⟩ | ⟨q1, q2⟩
      · exact .inl ⟨e', x', q1, at_snoc q2, q3, q4, q5, fun e2 x2 r1 r2 r3 => q6 e2 x2 r1 (drop _ _ r2 r3) r3⟩
      · exact .inr ⟨q1, fun e2 x2 r1 r2 r3 => q2 e2 x2 r1 (drop _ _ r2 r3) r3⟩
    · have ha : ab = false := by
        cases ha : ab with
        | false => rfl
        | true => rw [hA ha] at hi; cases hi
      have hc := hr hi
      rcases h.cur ha x.x with ⟨q1, q2⟩ | ⟨e', x', q1, q2, q3, q4, q5⟩
      · exact .inr ⟨by rw [← q1]; exact hc, fun e2 x2 r1 r2 r3 => q2 e2 x2 (drop _ _ r2 r3) r3⟩
      · rw [hc] at q4
        injection q4 with q4
        refine .inl ⟨e', x', by rw [he]; exact at_lt q1, at_snoc q1, q2, q3, q4.symm, fun e2 x2 r1 r2 r3 r4 => ?_⟩
        have := q5 e2 x2 (drop _ _ r2 r3) r3 r4
        omega
  · rcases snoc_at hx with hx | ⟨he, rfl⟩
    · obtain ⟨q1, q2⟩ := h.ri ha e x hx hk hi
      exact ⟨q1, fun e2 x2 r1 r2 r3 => q2 e2 x2 r1 (drop _ _ r2 r3) r3⟩
    · have hc := hn ha hi
      rcases h.cur ha x.x with ⟨q1, q2⟩ | ⟨e', x', q1, q2, q3, q4, q5⟩
      · exact ⟨by rw [← q1]; exact hc, fun e2 x2 r1 r2 r3 => q2 e2 x2 (drop _ _ r2 r3) r3⟩
      · rw [hc] at q4; cases q4
  · rcases h.cur ha z with ⟨q1, q2⟩ | ⟨e, x, q1, q2, q3, q4, q5⟩
    · exact .inl ⟨q1, fun e x r1 r2 => q2 e x (drop _ _ r1 r2) r2⟩
    · exact .inr ⟨e, x, at_snoc q1, q2, q3, q4, fun e2 x2 r1 r2 r3 => q5 e2 x2 (drop _ _ r1 r2) r2 r3⟩
theorem TL.made (ab : Bool) (st : ES) (l : List CE) : TL ab st (evsAt ab st l) (esAt ab st l) := by
  have key : ∀ (n : Nat) (l : List CE), l.length = n → TL ab st (evsAt ab st l) (esAt ab st l) := by
    intro n
    induction n with
    | zero => intro l hl; rw [List.eq_nil_of_length_eq_zero hl]; exact TL.start ab st
    | succ n ih =>
      intro l hl
      rcases List.eq_nil_or_concat l with rfl | ⟨l', x, rfl⟩
      · simp at hl
      have h := ih l' (by simp at hl; exact hl)
      rw [List.concat_eq_append, evsAt_snoc, esAt_snoc]
      have h3 : x.x % 3 < 3 := Nat.mod_lt _ (by decide)
      cases hw : x.w with
      | true =>
        simp only [evOf, esStep, hw, if_true]
        exact h.write h3
      | false =>
        simp only [evOf, esStep, hw, Bool.false_eq_true, if_false]
        cases ab with
        | true =>
          simp only [if_true]
          exact h.read rfl h3 (fun _ => rfl) (fun _ => rfl) (fun q => by simp at q) (fun q => by simp at q)
        | false =>
          simp only [Bool.false_eq_true, if_false]
          cases hc : (esAt false st l').cur (x.x % 3) with
          | none => exact h.read rfl h3 (fun _ => rfl) (fun _ => rfl) (fun q => by simp [rdOf] at q) (fun _ _ => hc)
          | some c => exact h.read rfl h3 (fun q => by simp [rdOf] at q) (fun q => by simp at q) (fun _ => hc) (fun _ q => by simp [rdOf] at q)
  exact key _ l rfl

/-- The history so far, n transactions recorded. -/
structure HSI (hs : List (List Tx)) (T : Nat → Nat → Nat) (n : Nat) (st : ES) : Prop where
  len : hs.length = 3
  tn : ∀ s l k, hs[s]? = some l → k < l.length → T s k < n
  mono : ∀ s l k k', hs[s]? = some l → k' < l.length → k < k' → T s k < T s k'
  inj : ∀ s l k s' l' k', hs[s]? = some l → k < l.length → hs[s']? = some l' → k' < l'.length → T s k = T s' k' → s = s' ∧ k = k'
  base : ∀ s k e x, At hs s k e x → (x.k = 0 ∨ x.k = 1) ∧ x.x < 3 ∧ (x.i = true → x.v = 0) ∧ x.v ≤ st.ver
  wi : ∀ s k e x, At hs s k e x → x.k = 1 → x.i = false
  grow : ∀ s k e x s' k' e' x', At hs s k e x → At hs s' k' e' x' → x.k = 1 → x'.k = 1 → Pre T s k e s' k' e' → x.v < x'.v
  rd : ∀ s k e v, At hs s k e v → v.k = 0 → v.i = false → Cm hs s k ∧ (∃ s' k' e' x, At hs s' k' e' x ∧ x.k = 1 ∧ x.v = v.v ∧ x.x = v.x ∧ Cm hs s' k' ∧ Pre T s' k' e' s k e) ∧
    ∀ s' k' e' x, At hs s' k' e' x → Cm hs s' k' → x.k = 1 → x.x = v.x → Pre T s' k' e' s k e → x.v ≤ v.v
  ri : ∀ s k e v, At hs s k e v → Cm hs s k → v.k = 0 → v.i = true → ∀ s' k' e' x, At hs s' k' e' x → Cm hs s' k' → x.k = 1 → x.x = v.x → ¬ Pre T s' k' e' s k e
  curS : ∀ y c, st.cur y = some c → (∃ s k e x, At hs s k e x ∧ Cm hs s k ∧ x.k = 1 ∧ x.x = y ∧ x.v = c) ∧ ∀ s k e x, At hs s k e x → Cm hs s k → x.k = 1 → x.x = y → x.v ≤ c
  curN : ∀ y, st.cur y = none → ∀ s k e x, At hs s k e x → Cm hs s k → x.k = 1 → x.x ≠ y
theorem HSI.start : HSI h00.hs (fun _ _ => 0) 0 h00.es := by
  have nl : ∀ (s : Nat) (l : List Tx), h00.hs[s]? = some l → l = [] := by
    intro s l h
    have := List.mem_of_getElem? h
    simp [h00] at this; exact this
  have na : ∀ s k e x, ¬ At h00.hs s k e x := by
    rintro s k e x ⟨l, t, h1, h2, _⟩
    rw [nl s l h1] at h2; simp at h2
  refine ⟨rfl, fun s l k h1 h2 => ?_, fun s l k k' h1 h2 => ?_, fun s l k s' l' k' h1 h2 => ?_, fun s k e x h => absurd h (na _ _ _ _), fun s k e x h => absurd h (na _ _ _ _), fun s k e x _ _ _ _ h => absurd h (na _ _ _ _), fun s k e x h => absurd h (na _ _ _ _), fun s k e x h => absurd h (na _ _ _ _), fun y c h => ?_, fun y _ s k e x h => absurd h (na _ _ _ _)⟩
  · rw [nl s l h1] at h2; simp at h2
  · rw [nl s l h1] at h2; simp at h2
  · rw [nl s l h1] at h2; simp at h2
  · simp [h00] at h
theorem HSI.step {hs : List (List Tx)} {T : Nat → Nat → Nat} {n : Nat} {st : ES} (h : HSI hs T n st) {s0 : Nat} {l0 : List Tx} (hl0 : hs[s0]? = some l0) {ab : Bool} {L : List Ev} {st' : ES} (t : TL ab st L st') :
    ∃ T', HSI (hs.set s0 (l0 ++ [⟨L, !ab⟩])) T' (n + 1) st' := by
  have hs0 := at_lt hl0
  refine ⟨fun s k => if s = s0 ∧ k = l0.length then n else T s k, ?_⟩
  obtain ⟨T', hT'⟩ : ∃ z, z = (fun s k => if s = s0 ∧ k = l0.length then n else T s k) := ⟨_, rfl⟩
  rw [← hT']
  have tnew : T' s0 l0.length = n := by rw [hT']; simp
  have told : ∀ {s k : Nat} {l : List Tx}, hs[s]? = some l → k < l.length → T' s k = T s k := by
    intro s k l h1 h2
    rw [hT']
    simp only
    rw [if_neg]
    rintro ⟨rfl, rfl⟩
    rw [hl0] at h1; cases h1
    omega
  have rows : ∀ {s : Nat} {l : List Tx} {k : Nat}, (hs.set s0 (l0 ++ [⟨L, !ab⟩]))[s]? = some l → k < l.length → (∃ l1, hs[s]? = some l1 ∧ k < l1.length) ∨ (s = s0 ∧ k = l0.length) := by
    intro s l k h1 h2
    by_cases c : s0 = s
    · subst c
      rw [List.getElem?_set_self hs0] at h1
      injection h1 with h1
      subst h1
      simp at h2
      by_cases c2 : k = l0.length
      · exact .inr ⟨rfl, c2⟩
      · exact .inl ⟨l0, hl0, by omega⟩
    · rw [List.getElem?_set_ne c] at h1
      exact .inl ⟨l, h1, h2⟩
  have txs : ∀ {s k : Nat} {l : List Tx} {x : Tx}, (hs.set s0 (l0 ++ [⟨L, !ab⟩]))[s]? = some l → l[k]? = some x → (∃ l1, hs[s]? = some l1 ∧ l1[k]? = some x) ∨ (s = s0 ∧ k = l0.length ∧ x = ⟨L, !ab⟩) := by
    intro s k l x h1 h2
    by_cases c : s0 = s
    · subst c
      rw [List.getElem?_set_self hs0] at h1
      injection h1 with h1
      subst h1
      rcases snoc_at h2 with h2 | ⟨h2, h3⟩
      · exact .inl ⟨l0, hl0, h2⟩
      · exact .inr ⟨rfl, h2, h3⟩
    · rw [List.getElem?_set_ne c] at h1
      exact .inl ⟨l, h1, h2⟩
  have keep : ∀ {s k : Nat} {l : List Tx} {x : Tx}, hs[s]? = some l → l[k]? = some x → ∃ l1, (hs.set s0 (l0 ++ [⟨L, !ab⟩]))[s]? = some l1 ∧ l1[k]? = some x := by
    intro s k l x h1 h2
    by_cases c : s0 = s
    · subst c
      rw [hl0] at h1; cases h1
      exact ⟨_, List.getElem?_set_self hs0, at_snoc h2⟩
    · exact ⟨l, by rw [List.getElem?_set_ne c]; exact h1, h2⟩
  have atD : ∀ {s k e : Nat} {x : Ev}, At (hs.set s0 (l0 ++ [⟨L, !ab⟩])) s k e x → (At hs s k e x ∧ T' s k = T s k ∧ T s k < n) ∨ (s = s0 ∧ k = l0.length ∧ L[e]? = some x) := by
    rintro s k e x ⟨l, y, h1, h2, h3⟩
    rcases txs h1 h2 with ⟨l1, q1, q2⟩ | ⟨q1, q2, q3⟩
    · exact .inl ⟨⟨l1, y, q1, q2, h3⟩, told q1 (at_lt q2), h.tn _ _ _ q1 (at_lt q2)⟩
    · subst q3; exact .inr ⟨q1, q2, h3⟩
  have atO : ∀ {s k e : Nat} {x : Ev}, At hs s k e x → At (hs.set s0 (l0 ++ [⟨L, !ab⟩])) s k e x := by
    rintro s k e x ⟨l, y, h1, h2, h3⟩
    obtain ⟨l1, q1, q2⟩ := keep h1 h2
    exact ⟨l1, y, q1, q2, h3⟩
  have atN : ∀ {e : Nat} {x : Ev}, L[e]? = some x → At (hs.set s0 (l0 ++ [⟨L, !ab⟩])) s0 l0.length e x := fun {e x} h1 => ⟨_, ⟨L, !ab⟩, List.getElem?_set_self hs0, by simp, h1⟩
  have cmO : ∀ {s k : Nat}, Cm hs s k → Cm (hs.set s0 (l0 ++ [⟨L, !ab⟩])) s k := by
    rintro s k ⟨l, y, h1, h2, h3⟩
    obtain ⟨l1, q1, q2⟩ := keep h1 h2
    exact ⟨l1, y, q1, q2, h3⟩
  have cmN : ab = false → Cm (hs.set s0 (l0 ++ [⟨L, !ab⟩])) s0 l0.length := fun ha => ⟨_, ⟨L, !ab⟩, List.getElem?_set_self hs0, by simp, by simp [ha]⟩
  have cmNew : Cm (hs.set s0 (l0 ++ [⟨L, !ab⟩])) s0 l0.length → ab = false := by
    rintro ⟨l, y, h1, h2, h3⟩
    rcases txs h1 h2 with ⟨l1, q1, q2⟩ | ⟨q1, q2, q3⟩
    · rw [hl0] at q1; cases q1
      have := at_lt q2; omega
    · subst q3; simpa using h3
  have cmD : ∀ {s k e : Nat} {x : Ev}, At hs s k e x → Cm (hs.set s0 (l0 ++ [⟨L, !ab⟩])) s k → Cm hs s k := by
    rintro s k e x ⟨l, y, h1, h2, _⟩ ⟨l', y', h1', h2', h3'⟩
    rcases txs h1' h2' with ⟨l1, q1, q2⟩ | ⟨rfl, rfl, q3⟩
    · exact ⟨l1, y', q1, q2, h3'⟩
    · rw [hl0] at h1; cases h1
      have := at_lt h2; omega
  have oldne : ∀ {s k e : Nat} {x : Ev}, At hs s k e x → ¬ (s = s0 ∧ k = l0.length) := by
    rintro s k e x ⟨l, y, h1, h2, _⟩ ⟨rfl, rfl⟩
    rw [hl0] at h1; cases h1
    have := at_lt h2; omega
  have preOO : ∀ {s k e s' k' e' : Nat} {x x' : Ev}, At hs s k e x → At hs s' k' e' x' → T' s k = T s k → T' s' k' = T s' k' → (Pre T' s k e s' k' e' ↔ Pre T s k e s' k' e') := by
    intro s k e s' k' e' x x' h1 h2 h3 h4
    unfold Pre; rw [h3, h4]
  refine ⟨by simp [h.len], fun s l k h1 h2 => ?_, fun s l k k' h1 h2 h3 => ?_, fun s l k s' l' k' h1 h2 h1' h2' h3 => ?_, fun s k e x hx => ?_, fun s k e x hx hk => ?_, fun s k e x s' k' e' x' hx hx' hk hk' hp => ?_, fun s k e v hx hk hi => ?_, fun s k e v hx hc hk hi s' k' e' x hx' hc' hk' hxx hp => ?_, fun y c hy => ?_, fun y hy s k e x hx hc hk => ?_⟩
  · rcases rows h1 h2 with ⟨l1, q1, q2⟩ | ⟨rfl, rfl⟩
    · rw [told q1 q2]; have := h.tn _ _ _ q1 q2; omega
    · omega
  · rcases rows h1 h2 with ⟨l1, q1, q2⟩ | ⟨rfl, rfl⟩
    · rw [told q1 q2, told q1 (by omega)]; exact h.mono _ _ _ _ q1 q2 h3
    · rw [tnew, told hl0 h3]; exact h.tn _ _ _ hl0 h3
  · rcases rows h1 h2 with ⟨l1, q1, q2⟩ | ⟨rfl, rfl⟩
    · rcases rows h1' h2' with ⟨l1', q1', q2'⟩ | ⟨rfl, rfl⟩
      · rw [told q1 q2, told q1' q2'] at h3; exact h.inj _ _ _ _ _ _ q1 q2 q1' q2' h3
      · rw [told q1 q2, tnew] at h3; have := h.tn _ _ _ q1 q2; omega
    · rcases rows h1' h2' with ⟨l1', q1', q2'⟩ | ⟨rfl, rfl⟩
      · rw [told q1' q2', tnew] at h3; have := h.tn _ _ _ q1' q2'; omega
      · exact ⟨rfl, rfl⟩
  · rcases atD hx with ⟨q1, q2, q3⟩ | ⟨q1, q2, q3⟩
    · obtain ⟨a, b, c, d⟩ := h.base _ _ _ _ q1
      exact ⟨a, b, c, by have := t.ver.1; omega⟩
    · obtain ⟨a, b, c⟩ := t.base _ _ q3
      refine ⟨a, b, c, ?_⟩
      rcases a with a | a
      · cases hi : x.i with
        | true => rw [c hi]; exact Nat.zero_le _
        | false =>
          rcases t.rd _ _ q3 a hi with ⟨e', x', r1, r2, r3, r4, r5, _⟩ | ⟨r1, _⟩
          · have := (t.wr _ _ r2 r3).2.2; omega
          · obtain ⟨s1, k1, e1, x1, r2, r3, r4, r5, r6⟩ := (h.curS _ _ r1).1
            have := (h.base _ _ _ _ r2).2.2.2
            have := t.ver.1
            omega
      · exact (t.wr _ _ q3 a).2.2
  · rcases atD hx with ⟨q1, q2, q3⟩ | ⟨q1, q2, q3⟩
    · exact h.wi _ _ _ _ q1 hk
    · exact (t.wr _ _ q3 hk).1
  · rcases atD hx with ⟨q1, q2, q3⟩ | ⟨q1, q2, q3⟩
    · rcases atD hx' with ⟨q1', q2', q3'⟩ | ⟨q1', q2', q3'⟩
      · exact h.grow _ _ _ _ _ _ _ _ q1 q1' hk hk' ((preOO q1 q1' q2 q2').mp hp)
      · have := (h.base _ _ _ _ q1).2.2.2
        have := (t.wr _ _ q3' hk').2.1
        omega
    · rcases atD hx' with ⟨q1', q2', q3'⟩ | ⟨q1', q2', q3'⟩
      · exfalso
        rcases hp with hp | ⟨r1, r2, _⟩
        · rw [q1, q2, tnew, q2'] at hp; omega
        · exact oldne q1' ⟨r1 ▸ q1, r2 ▸ q2⟩
      · refine t.gr _ _ _ _ q3 q3' hk hk' ?_
        rcases hp with hp | ⟨r1, r2, r3⟩
        · rw [q1, q2, q1', q2'] at hp; omega
        · exact r3
  · rcases atD hx with ⟨q1, q2, q3⟩ | ⟨rfl, rfl, q3⟩
    · obtain ⟨a, ⟨s', k', e', x, b1, b2, b3, b4, b5, b6⟩, c⟩ := h.rd _ _ _ _ q1 hk hi
      refine ⟨cmO a, ⟨s', k', e', x, atO b1, b2, b3, b4, cmO b5, ?_⟩, fun s2 k2 e2 x2 r1 r2 r3 r4 r5 => ?_⟩
      · obtain ⟨l, g1, g2⟩ := b1.vd
        exact (preOO b1 q1 (told g1 g2) q2).mpr b6
      · rcases atD r1 with ⟨g1, g2, g3⟩ | ⟨g1, g2, g3⟩
        · exact c _ _ _ _ g1 (cmD g1 r2) r3 r4 ((preOO g1 q1 g2 q2).mp r5)
        · exfalso
          rcases r5 with r5 | ⟨p1, p2, _⟩
          · rw [g1, g2, tnew, q2] at r5; omega
          · exact oldne q1 ⟨p1 ▸ g1, p2 ▸ g2⟩
    · have ha : ab = false := by
        cases ha : ab with
        | false => rfl
        | true => rw [t.rdA ha _ _ q3 hk] at hi; cases hi
      refine ⟨cmN ha, ?_, fun s2 k2 e2 x2 r1 r2 r3 r4 r5 => ?_⟩
      · rcases t.rd _ _ q3 hk hi with ⟨e', x', r1, r2, r3, r4, r5, _⟩ | ⟨r1, _⟩
        · exact ⟨_, _, e', x', atN r2, r3, r5, r4, cmN ha, .inr ⟨rfl, rfl, r1⟩⟩
        · obtain ⟨s1, k1, e1, x1, r2, r3, r4, r5, r6⟩ := (h.curS _ _ r1).1
          obtain ⟨l, g1, g2⟩ := r2.vd
          exact ⟨s1, k1, e1, x1, atO r2, r4, r6, r5, cmO r3, .inl (by rw [told g1 g2, tnew]; exact h.tn _ _ _ g1 g2)⟩
      · rcases atD r1 with ⟨g1, g2, g3⟩ | ⟨g1, g2, g3⟩
        · have hle := (h.base _ _ _ _ g1).2.2.2
          rcases t.rd _ _ q3 hk hi with ⟨e', x', p1, p2, p3, p4, p5, _⟩ | ⟨p1, _⟩
          · have := (t.wr _ _ p2 p3).2.1; omega
          · exact (h.curS _ _ p1).2 _ _ _ _ g1 (cmD g1 r2) r3 r4
        · have he : e2 < e := by
            rcases r5 with r5 | ⟨_, _, r5⟩
            · rw [g1, g2] at r5; omega
            · exact r5
          rcases t.rd _ _ q3 hk hi with ⟨e', x', p1, p2, p3, p4, p5, p6⟩ | ⟨p1, p2⟩
          · exact p6 _ _ he g3 r3 r4
          · exact absurd r4 (p2 _ _ he g3 r3)
  · rcases atD hx with ⟨q1, q2, q3⟩ | ⟨rfl, rfl, q3⟩
    · rcases atD hx' with ⟨g1, g2, g3⟩ | ⟨g1, g2, g3⟩
      · exact h.ri _ _ _ _ q1 (cmD q1 hc) hk hi _ _ _ _ g1 (cmD g1 hc') hk' hxx ((preOO g1 q1 g2 q2).mp hp)
      · rcases hp with hp | ⟨p1, p2, _⟩
        · rw [g1, g2, tnew, q2] at hp; omega
        · exact oldne q1 ⟨p1 ▸ g1, p2 ▸ g2⟩
    · obtain ⟨c1, c2⟩ := t.ri (cmNew hc) _ _ q3 hk hi
      rcases atD hx' with ⟨g1, g2, g3⟩ | ⟨g1, g2, g3⟩
      · exact h.curN _ c1 _ _ _ _ g1 (cmD g1 hc') hk' hxx
      · refine c2 _ _ ?_ g3 hk' hxx
        rcases hp with hp | ⟨_, _, hp⟩
        · rw [g1, g2] at hp; omega
        · exact hp
  · cases ha : ab with
    | true =>
      rw [t.curA ha] at hy
      obtain ⟨⟨s, k, e, x, a1, a2, a3, a4, a5⟩, b⟩ := h.curS y c hy
      refine ⟨⟨s, k, e, x, ha ▸ atO a1, ha ▸ cmO a2, a3, a4, a5⟩, fun s k e x q1 q2 q3 q4 => ?_⟩
      rw [← ha] at q1 q2
      rcases atD q1 with ⟨g1, g2, g3⟩ | ⟨rfl, rfl, g3⟩
      · exact b _ _ _ _ g1 (cmD g1 q2) q3 q4
      · have := cmNew q2; rw [ha] at this; cases this
    | false =>
      rw [← ha]
      rcases t.cur ha y with ⟨c1, c2⟩ | ⟨e0, x0, c1, c2, c3, c4, c5⟩
      · rw [c1] at hy
        obtain ⟨⟨s, k, e, x, a1, a2, a3, a4, a5⟩, b⟩ := h.curS y c hy
        refine ⟨⟨s, k, e, x, atO a1, cmO a2, a3, a4, a5⟩, fun s k e x q1 q2 q3 q4 => ?_⟩
        rcases atD q1 with ⟨g1, g2, g3⟩ | ⟨rfl, rfl, g3⟩
        · exact b _ _ _ _ g1 (cmD g1 q2) q3 q4
        · exact absurd q4 (c2 _ _ g3 q3)
      · rw [c4] at hy
        injection hy with hy
        subst hy
        refine ⟨⟨_, _, e0, x0, atN c1, cmN ha, c2, c3, rfl⟩, fun s k e x q1 q2 q3 q4 => ?_⟩
        rcases atD q1 with ⟨g1, g2, g3⟩ | ⟨rfl, rfl, g3⟩
        · have := (h.base _ _ _ _ g1).2.2.2
          have := (t.wr _ _ c1 c2).2.1
          omega
        · exact c5 _ _ g3 q3 q4
  · rcases atD hx with ⟨g1, g2, g3⟩ | ⟨rfl, rfl, g3⟩
    · refine h.curN y ?_ _ _ _ _ g1 (cmD g1 hc) hk
      cases ha : ab with
      | true => rw [t.curA ha] at hy; exact hy
      | false =>
        rcases t.cur ha y with ⟨c1, c2⟩ | ⟨e0, x0, c1, c2, c3, c4, c5⟩
        · rw [c1] at hy; exact hy
        · rw [c4] at hy; cases hy
    · have ha := cmNew hc
      rcases t.cur ha y with ⟨c1, c2⟩ | ⟨e0, x0, c1, c2, c3, c4, c5⟩
      · exact c2 _ _ g3 hk
      · rw [c4] at hy; cases hy
theorem sum_set {α : Type} : ∀ (hs : List (List α)) (s : Nat) (l l' : List α), hs[s]? = some l → ((hs.set s l').map List.length).sum + l.length = (hs.map List.length).sum + l'.length
  | [], _, _, _, h => by simp at h
  | g :: G, 0, r, r', h => by simp at h; subst h; simp; omega
  | g :: G, t + 1, r, r', h => by
    simp at h
    have := sum_set G t r r' h
    simp at this ⊢; omega
theorem len_le_sum {α : Type} : ∀ (hs : List (List α)) (l : List α), l ∈ hs → l.length ≤ (hs.map List.length).sum
  | [], l, h => by simp at h
  | g :: G, l, h => by
    rcases List.mem_cons.mp h with rfl | h
    · simp
    · have := len_le_sum G l h; simp; omega
structure SZ (hs : List (List Tx)) (n : Nat) : Prop where
  sum : (hs.map List.length).sum = n
  evs : ∀ l ∈ hs, ∀ t ∈ l, t.evs.length ≤ 64
theorem hist_si : ∀ ts : List CT, (∀ t ∈ ts, t.evs.length ≤ 64) → ∃ T, HSI (hist ts).hs T ts.length (hist ts).es ∧ (hist ts).es.ver ≤ 64 * ts.length ∧ SZ (hist ts).hs ts.length := by
  have key : ∀ (n : Nat) (ts : List CT), ts.length = n → (∀ t ∈ ts, t.evs.length ≤ 64) → ∃ T, HSI (hist ts).hs T ts.length (hist ts).es ∧ (hist ts).es.ver ≤ 64 * ts.length ∧ SZ (hist ts).hs ts.length := by
    intro n
    induction n with
    | zero =>
      intro ts hl _
      rw [List.eq_nil_of_length_eq_zero hl]
      refine ⟨_, HSI.start, by simp [hist, h00], by simp [hist, h00], fun l hl t ht => ?_⟩
      simp [hist, h00] at hl
      subst hl
      simp at ht
    | succ n ih =>
      intro ts hl h64
      rcases List.eq_nil_or_concat ts with rfl | ⟨ts', t, rfl⟩
      · simp at hl
      rw [List.concat_eq_append] at hl h64 ⊢
      obtain ⟨T, h1, h2, h3⟩ := ih ts' (by simp at hl; exact hl) (fun t ht => h64 t (by simp [ht]))
      have hm : t.s % 3 < 3 := Nat.mod_lt _ (by decide)
      have hl3 := h1.len
      obtain ⟨l0, hl0⟩ : ∃ l0, (hist ts').hs[t.s % 3]? = some l0 := ⟨_, List.getElem?_eq_getElem (by omega)⟩
      have e : hist (ts' ++ [t]) = ⟨esAt t.ab (hist ts').es t.evs, (hist ts').hs.set (t.s % 3) (l0 ++ [⟨evsAt t.ab (hist ts').es t.evs, !t.ab⟩])⟩ := by
        show List.foldl hStep h00 (ts' ++ [t]) = _
        rw [List.foldl_append]
        show hStep (hist ts') t = _
        unfold hStep
        rw [List.getD_eq_getElem?_getD, hl0]; rfl
      have tl := TL.made t.ab (hist ts').es t.evs
      obtain ⟨T', h1'⟩ := h1.step hl0 tl
      have h64t := h64 t (by simp)
      have hel := evsAt_len t.ab t.evs (hist ts').es
      rw [e]
      refine ⟨T', by simpa using h1', ?_, ?_, fun l hl x hx => ?_⟩
      · have := tl.ver.2
        simp only [List.length_append, List.length_singleton]
        omega
      · have := sum_set (hist ts').hs (t.s % 3) l0 (l0 ++ [⟨evsAt t.ab (hist ts').es t.evs, !t.ab⟩]) hl0
        have := h3.sum
        simp only [List.length_append, List.length_singleton] at *
        omega
      · rcases List.mem_or_eq_of_mem_set hl with hl | hl
        · exact h3.evs l hl x hx
        · subst hl
          rcases List.mem_append.mp hx with hx | hx
          · exact h3.evs l0 (List.mem_of_getElem? hl0) x hx
          · simp at hx
            subst hx
            simp only [hel]; exact h64t
  exact fun ts h => key _ ts rfl h
theorem rksRow_len (s : Nat) : ∀ (l : List Tx) (k : Nat), (rksRow s k l).length ≤ l.length
  | [], k => by simp [rksRow]
  | t :: l, k => by
    have := rksRow_len s l (k + 1)
    simp only [rksRow, List.length_append, List.length_cons]
    split <;> simp <;> omega
theorem rksAll_len : ∀ (hs : List (List Tx)) (s : Nat), (rksAll s hs).length ≤ (hs.map List.length).sum
  | [], s => by simp [rksAll]
  | l :: hs, s => by
    have := rksAll_len hs (s + 1)
    have := rksRow_len s l 0
    simp only [rksAll, List.length_append, List.map_cons, List.sum_cons]
    omega
theorem evRow_le : ∀ l : List Tx, (∀ t ∈ l, t.evs.length ≤ 64) → evRow l ≤ 64 * l.length
  | [], _ => by simp [evRow]
  | t :: l, h => by
    have := evRow_le l (fun t ht => h t (by simp [ht]))
    have := h t (by simp)
    simp only [evRow, List.map_cons, List.sum_cons, List.length_cons] at *
    omega
theorem evAll_le : ∀ hs : List (List Tx), (∀ l ∈ hs, ∀ t ∈ l, t.evs.length ≤ 64) → evAll hs ≤ 64 * (hs.map List.length).sum
  | [], _ => by simp [evAll]
  | l :: hs, h => by
    have := evAll_le hs (fun l hl => h l (by simp [hl]))
    have := evRow_le l (h l (by simp))
    simp only [evAll, List.map_cons, List.sum_cons] at *
    omega
/-- What the law records is a serial history. -/
theorem hist_ser (ts : List CT) (h12 : ts.length ≤ 12) (h64 : ∀ t ∈ ts, t.evs.length ≤ 64) :
    (∃ T, Ser (hist ts).hs T) ∧ (rksAll 0 (hist ts).hs).length ≤ 12 ∧ evAll (hist ts).hs ≤ 768 ∧ (hist ts).hs.length = 3 ∧ (∀ l ∈ (hist ts).hs, l.length ≤ 12) ∧ (hist ts).es.ver ≤ 768 := by
  obtain ⟨T, h1, h2, h3⟩ := hist_si ts h64
  have hsum := h3.sum
  have hl12 : ∀ l ∈ (hist ts).hs, l.length ≤ 12 := fun l hl => by have := len_le_sum _ l hl; omega
  refine ⟨⟨T, ?_⟩, by have := rksAll_len (hist ts).hs 0; omega, by have := evAll_le _ h3.evs; omega, h1.len, hl12, by omega⟩
  refine ⟨h1.mono, h1.inj, fun s k e x h => (h1.base s k e x h).1, h1.wi, h1.grow, h1.rd, h1.ri, fun s k e x h => (h1.base s k e x h).2.2.1, fun s k e x h => ?_, by rw [h1.len]; decide, fun l hl => by have := hl12 l hl; omega, fun l hl t ht => by have := h3.evs l hl t ht; omega⟩
  have := h1.base s k e x h
  omega
end Go.Proofs.YbulkctquGreatFmt

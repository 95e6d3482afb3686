/-
  Plainly: a component of more than one node has a cycle through each of its nodes; the start that CertifySessions picks.
-/
import Derived.Test.YbulkctquGreatFmtScP
namespace Go.Proofs.YbulkctquGreatFmt
open Go.ChangeShapes Go.WideShapes Go.ChangeAt Go.RowKit Go.Ord
set_option linter.unusedVariables false

theorem Comp.loop {G : List (List Nat)} {cmp : List Int} {siz : List Nat} (hc : Comp G cmp siz) {st c n : Nat} (h1 : cmp[st]? = some (c : Int)) (h2 : siz[c]? = some n) (h3 : 1 < n) :
    ∃ y, y ≠ st ∧ RI G (fun z => cmp[z]? = some (c : Int)) st y ∧ RI G (fun z => cmp[z]? = some (c : Int)) y st := by
  obtain ⟨l, l1, l2, l3⟩ := hc.cnt c n h2
  have hy : ∃ y ∈ l, y ≠ st := by
    match l, l1, l2 with
    | [], _, l2 => simp at l2; omega
    | [_], _, l2 => simp at l2; omega
    | a :: b :: r, l1, _ =>
      by_cases q : a = st
      · refine ⟨b, by simp, fun e => ?_⟩
        rw [q, e] at l1; simp at l1
      · exact ⟨a, by simp, q⟩
  obtain ⟨y, y1, y2⟩ := hy
  have y3 := (l3 y).mp y1
  exact ⟨y, y2, hc.con c st y h1 y3, hc.con c y st y3 h1⟩
/-- Where the search for a start stands: none so far among the first t, or one. -/
def StI (cmp : List Int) (siz : List Nat) (m t : Nat) (st : Int) : Prop :=
  (st = -1 ∧ ∀ x, x < t → ∀ (c n : Nat), cmp[x]? = some (c : Int) → siz[c]? = some n → n ≤ 1) ∨ ∃ (x c n : Nat), st = (x : Int) ∧ x < m ∧ cmp[x]? = some (c : Int) ∧ siz[c]? = some n ∧ 1 < n
theorem StI.start (cmp : List Int) (siz : List Nat) (m : Nat) : StI cmp siz m 0 (-1) := .inl ⟨rfl, fun x h => by omega⟩
theorem StI.small {cmp : List Int} {siz : List Nat} {m t : Nat} {st : Int} (h : StI cmp siz m t st) {c n : Nat} (h1 : cmp[t]? = some (c : Int)) (h2 : siz[c]? = some n) (h3 : n ≤ 1) : StI cmp siz m (t + 1) st := by
  rcases h with ⟨h, k⟩ | h
  · refine .inl ⟨h, fun x hx c' n' q1 q2 => ?_⟩
    by_cases q : x = t
    · subst q
      rw [h1] at q1; injection q1 with q1
      have : c = c' := by omega
      subst this
      rw [h2] at q2; injection q2 with q2; omega
    · exact k x (by omega) c' n' q1 q2
  · exact .inr h
theorem StI.take {cmp : List Int} {siz : List Nat} {m t : Nat} (ht : t < m) {c n : Nat} (h1 : cmp[t]? = some (c : Int)) (h2 : siz[c]? = some n) (h3 : 1 < n) : StI cmp siz m (t + 1) (t : Int) := .inr ⟨t, c, n, rfl, ht, h1, h2, h3⟩
theorem StI.leave {cmp : List Int} {siz : List Nat} {m t : Nat} {st : Int} (h : StI cmp siz m t st) (h0 : ¬ st < 0) : StI cmp siz m (t + 1) st := by
  rcases h with ⟨h, _⟩ | h
  · omega
  · exact .inr h
end Go.Proofs.YbulkctquGreatFmt

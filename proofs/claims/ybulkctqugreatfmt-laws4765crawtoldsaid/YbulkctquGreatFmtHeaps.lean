/-
  container/heap over nodeHeap.
-/
import Derived.Test.YbulkctquGreatFmtGraph
import Derived.BigQuiet
import Derived.Sort.Lot0
namespace Go.Proofs.YbulkctquGreatFmt
open Go.ChangeShapes Go.WideShapes Go.ChangeAt Go.RowKit Go.Ord
set_option linter.unusedVariables false

/-- A method of nodeHeap, called through a pointer. -/
theorem meth (name : String) (f : Nat) (hm : ((Ybaz.prog.info? 189).bind fun i => i.methods.find? (·.name == name)).map (fun m => (m.path.toList, m.func)) = some ([], some (f, false)))
    (n : Nat) (h : Nat) (w : World) (v : Value) (hc : w.cell? ⟨h, 0, none⟩ = some v) : (method (n + 1) 189 (.pointer (some ⟨h, 0, none⟩)) name).run Ybaz.prog w = .ok (f, v) w := by
  have hu : Ybaz.prog.underlying 189 = some (.pointer 187) := by kernel_rfl
  have ha : (isAgg 187).run Ybaz.prog w = .ok false w := by
    have : Ybaz.prog.underlying 187 = some (.slice 3) := by kernel_rfl
    simp [isAgg, run_underlying this]
  obtain ⟨i, hi⟩ : ∃ i, Ybaz.prog.info? 189 = some i := by
    cases hq : Ybaz.prog.info? 189 with
    | none => rw [hq] at hm; simp at hm
    | some i => exact ⟨i, rfl⟩
  rw [hi] at hm
  simp only [Option.bind_some, Option.map_eq_some_iff, Prod.mk.injEq] at hm
  obtain ⟨m, hm1, hm2, hm3⟩ := hm
  have hp : m.path = #[] := by
    apply Array.ext'; simpa using hm2
  have hk : ∀ nm : String, Builtin.ssaWrapNilChk_ #[189] 189 #[.pointer (some ⟨h, 0, none⟩), strVal "", strVal nm] = pure (.pointer (some ⟨h, 0, none⟩)) := fun nm => rfl
  simp [method, typeInfo, hi, hm1, hm3, follow, receiverAt, run_underlying hu, Place.get, hk, loadVar, ha, asAddr, hp, hc]
theorem methLen (h : Nat) (w : World) (v : Value) (hc : w.cell? ⟨h, 0, none⟩ = some v) : (method 368 189 (.pointer (some ⟨h, 0, none⟩)) "Len").run Ybaz.prog w = .ok (74, v) w := meth _ _ (by kernel_rfl) 367 h w v hc
theorem methLess (h : Nat) (w : World) (v : Value) (hc : w.cell? ⟨h, 0, none⟩ = some v) : (method 368 189 (.pointer (some ⟨h, 0, none⟩)) "Less").run Ybaz.prog w = .ok (158, v) w := meth _ _ (by kernel_rfl) 367 h w v hc
theorem methSwap (h : Nat) (w : World) (v : Value) (hc : w.cell? ⟨h, 0, none⟩ = some v) : (method 368 189 (.pointer (some ⟨h, 0, none⟩)) "Swap").run Ybaz.prog w = .ok (159, v) w := meth _ _ (by kernel_rfl) 367 h w v hc

/-! Heaps, no Go in sight. -/
def hg (xs : List Nat) (t : Nat) : Nat := xs.getD t 0
def swl (xs : List Nat) (i j : Nat) : List Nat := (xs.set i (hg xs j)).set j (hg xs i)
def Hp (xs : List Nat) (n : Nat) : Prop := ∀ i, 0 < i → i < n → hg xs ((i - 1) / 2) ≤ hg xs i
def UpOk (xs : List Nat) (j : Nat) : Prop := (∀ i, 0 < i → i < xs.length → i ≠ j → hg xs ((i - 1) / 2) ≤ hg xs i) ∧ (∀ c, 0 < c → c < xs.length → (c - 1) / 2 = j → 0 < j → hg xs ((j - 1) / 2) ≤ hg xs c)
def DnOk (xs : List Nat) (n i : Nat) : Prop := (∀ k, 0 < k → k < n → (k - 1) / 2 ≠ i → hg xs ((k - 1) / 2) ≤ hg xs k) ∧ (∀ c, 0 < c → c < n → (c - 1) / 2 = i → 0 < i → hg xs ((i - 1) / 2) ≤ hg xs c)
theorem swl_len (xs : List Nat) (i j : Nat) : (swl xs i j).length = xs.length := by simp [swl]
theorem hg_swl (xs : List Nat) {i j : Nat} (hi : i < xs.length) (hj : j < xs.length) (t : Nat) : hg (swl xs i j) t = if t = j then hg xs i else if t = i then hg xs j else hg xs t := by
  unfold swl
  simp only [hg, List.getD_eq_getElem?_getD, List.getElem?_set, List.length_set]
  by_cases h1 : t = j
  · subst h1; simp [hj]
  · by_cases h2 : t = i
    · subst h2; simp [h1, hi, Ne.symm h1]
    · simp [h1, h2, Ne.symm h1, Ne.symm h2]
theorem swl_perm (xs : List Nat) {i j : Nat} (hi : i < xs.length) (hj : j < xs.length) : (swl xs i j).Perm xs := by
  have := Sort.perm_set_set xs i j hi hj
  unfold swl hg
  simpa [List.getElem?_eq_getElem hi, List.getElem?_eq_getElem hj] using this
theorem up_step {xs : List Nat} {j : Nat} (h : UpOk xs j) (h0 : 0 < j) (hj : j < xs.length) (hl : hg xs j < hg xs ((j - 1) / 2)) : UpOk (swl xs ((j - 1) / 2) j) ((j - 1) / 2) := by
  have hp : (j - 1) / 2 < xs.length := by omega
  refine ⟨fun i h1 h2 h3 => ?_, fun c h1 h2 h3 h4 => ?_⟩
  · rw [swl_len] at h2
    rw [hg_swl xs hp hj, hg_swl xs hp hj]
    by_cases e1 : i = j
    · subst e1; simp [show (i - 1) / 2 ≠ i by omega]; omega
    · by_cases e2 : (i - 1) / 2 = j
      · have := h.2 i h1 h2 e2 h0
        simp [e1, e2, h3]; exact this
      · by_cases e3 : (i - 1) / 2 = (j - 1) / 2
        · have := h.1 i h1 h2 e1
          rw [e3] at this
          simp [e1, h3, e3, show (j - 1) / 2 ≠ j by omega]; omega
        · have := h.1 i h1 h2 e1
          simp [e1, h3, e2, e3]; exact this
  · rw [swl_len] at h2
    rw [hg_swl xs hp hj, hg_swl xs hp hj]
    have q1 : ((j - 1) / 2 - 1) / 2 ≠ j := by omega
    have q2 : ((j - 1) / 2 - 1) / 2 ≠ (j - 1) / 2 := by omega
    have q3 := h.1 ((j - 1) / 2) h4 hp (by omega)
    by_cases e1 : c = j
    · simp [e1, q1, q2]; exact q3
    · have q4 := h.1 c h1 h2 e1
      rw [h3] at q4
      have e2 : c ≠ (j - 1) / 2 := by omega
      simp [e1, e2, q1, q2]; omega
theorem up_done {xs : List Nat} {j : Nat} (h : UpOk xs j) (hd : j = 0 ∨ ¬ hg xs j < hg xs ((j - 1) / 2)) : Hp xs xs.length := by
  intro i h1 h2
  by_cases e : i = j
  · subst e; omega
  · exact h.1 i h1 h2 e
theorem dn_step {xs : List Nat} {n i c : Nat} (hn : n ≤ xs.length) (h : DnOk xs n i) (hc : c = 2 * i + 1 ∨ c = 2 * i + 2) (hcn : c < n) (hl : hg xs c < hg xs i) (hm : ∀ k, 0 < k → k < n → (k - 1) / 2 = i → hg xs c ≤ hg xs k) : DnOk (swl xs i c) n c := by
  have hi : i < xs.length := by omega
  have hcl : c < xs.length := by omega
  refine ⟨fun k h1 h2 h3 => ?_, fun k h1 h2 h3 h4 => ?_⟩
  · rw [hg_swl xs hi hcl, hg_swl xs hi hcl]
    by_cases e1 : k = c
    · subst e1
      have : (k - 1) / 2 = i := by omega
      simp [this, show i ≠ k by omega]; omega
    · by_cases e2 : (k - 1) / 2 = i
      · have := hm k h1 h2 e2
        have e3 : k ≠ i := by omega
        simp [e1, e2, e3, show i ≠ c by omega]; exact this
      · by_cases e3 : k = i
        · subst e3
          have h5 := h.2 c (by omega) hcn (by omega) h1
          simp [e1, h3, show (k - 1) / 2 ≠ k by omega]; exact h5
        · have := h.1 k h1 h2 e2
          simp [e1, e2, e3, h3]; exact this
  · rw [hg_swl xs hi hcl, hg_swl xs hi hcl]
    have e0 : (c - 1) / 2 = i := by omega
    have e1 : k ≠ c := by omega
    have e2 : k ≠ i := by omega
    have := h.1 k h1 h2 (by omega)
    rw [h3] at this
    simp [e0, e1, e2, show i ≠ c by omega]; exact this
theorem dn_done {xs : List Nat} {n i : Nat} (h : DnOk xs n i) (hd : ∀ k, 0 < k → k < n → (k - 1) / 2 = i → hg xs i ≤ hg xs k) : Hp xs n := by
  intro k h1 h2
  by_cases e : (k - 1) / 2 = i
  · rw [e]; exact hd k h1 h2 e
  · exact h.1 k h1 h2 e
theorem hp_min {xs : List Nat} {n : Nat} (h : Hp xs n) : ∀ k i, i ≤ k → i < n → hg xs 0 ≤ hg xs i := by
  intro k
  induction k with
  | zero => intro i h1 h2; rw [show i = 0 by omega]; exact Nat.le_refl _
  | succ k ih =>
    intro i h1 h2
    by_cases e : i = 0
    · rw [e]; exact Nat.le_refl _
    · exact Nat.le_trans (ih ((i - 1) / 2) (by omega) (by omega)) (h i (by omega) h2)
end Go.Proofs.YbulkctquGreatFmt

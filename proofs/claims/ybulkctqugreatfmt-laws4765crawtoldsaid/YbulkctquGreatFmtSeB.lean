/-
  settle, whole.
-/
import Derived.Test.YbulkctquGreatFmtSeD
import Derived.Test.YbulkctquGreatFmtOver
namespace Go.Proofs.YbulkctquGreatFmt
open Go.ChangeShapes Go.WideShapes Go.ChangeAt Go.RowKit Go.Ord
set_option linter.unusedVariables false
attribute [local go_sem ↓] Go.wp_at_zero Go.wp_at_succ

def ggT : GG := ⟨none, 0, none, 0, [], [], [], [], kcT ⟨none, 0, 0⟩ ⟨none, 0, 0⟩⟩
theorem TC.start {w : World} {bK : Nat} (h : Blk w bK 210 #[.slice none 0 0, .slice none 0 0, .slice none 0 0, .slice none 0 0, .slice none 0 0, .int .i64 0]) : TC bK ggT [] [] ⟨none, 0, 0⟩ ⟨none, 0, 0⟩ [] [] [] [] [] w := by
  refine ⟨⟨h.cell 0, h.cell 1, h.free 0, h.free 1, Sl.empty _ _ _, Sl.empty _ _ _, rfl, fun i s f r hs => by simp [ggT] at hs, by simp [GG.foot, ggT], ?_⟩, rfl, rfl, rfl, rfl, Sl.empty _ _ _, by simp, by simp, Sl.empty _ _ _, by simp [tcFp, GG.foot, ggT], by simp⟩
  intro j v hj
  simp only [ggT, kcT] at hj
  split at hj
  · rename_i e; subst e; injection hj with hj; subst hj; exact ⟨by omega, by omega, h.cell 2, h.free 2⟩
  · split at hj
    · rename_i e; subst e; injection hj with hj; subst hj; exact ⟨by omega, by omega, h.cell 3, h.free 3⟩
    · split at hj
      · rename_i e; subst e; injection hj with hj; subst hj; exact ⟨by omega, by omega, h.cell 4, h.free 4⟩
      · split at hj
        · rename_i e; subst e; injection hj with hj; subst hj; exact ⟨by omega, by omega, h.cell 5, h.free 5⟩
        · cases hj
/-- The arcs of one label, as far as they are laid. -/
structure LcI (G : List (List Nat)) (mem : List Nat) (i j : Nat) (B : List (List Nat)) : Prop where
  len : B.length = mem.length
  snd : ∀ a b, b ∈ outs B a → ∃ v u, mem[a]? = some v ∧ mem[b]? = some u ∧ u ∈ outs G v
  com : ∀ v u, v ∈ mem → u ∈ mem → u ∈ outs G v → (mem.idxOf v < i ∨ (mem.idxOf v = i ∧ u ∈ (outs G v).take j)) → mem.idxOf u ∈ outs B (mem.idxOf v)
  wt : wt B ≤ ((mem.take i).map (fun v => (outs G v).length)).sum + j
theorem outs_rep (n a : Nat) : outs (List.replicate n ([] : List Nat)) a = [] := by
  unfold outs
  rw [List.getD_eq_getElem?_getD, List.getElem?_replicate]
  split <;> rfl
theorem wt_rep (n : Nat) : Go.Proofs.YbulkctquGreatFmt.wt (List.replicate n ([] : List Nat)) = 0 := by
  induction n with
  | zero => rfl
  | succ n ih => rw [List.replicate_succ]; simp [Go.Proofs.YbulkctquGreatFmt.wt] at ih ⊢
theorem LcI.start (G : List (List Nat)) (mem : List Nat) : LcI G mem 0 0 (List.replicate mem.length []) :=
  ⟨by simp, fun a b h => by rw [outs_rep] at h; simp at h, fun v u _ _ _ h => by rcases h with h | ⟨_, h⟩; omega; simp at h, by rw [wt_rep]; omega⟩
section
variable {G B : List (List Nat)} {mem : List Nat} {i j : Nat}
theorem LcI.skip (h : LcI G mem i j B) {v u : Nat} (hn : mem.Nodup) (hv : mem[i]? = some v) (hu : (outs G v)[j]? = some u) (hm : u ∉ mem) : LcI G mem i (j + 1) B := by
  refine ⟨h.len, h.snd, fun v' u' hv' hu' ho hc => h.com v' u' hv' hu' ho ?_, by have := h.wt; omega⟩
  rcases hc with hc | ⟨h1, h2⟩
  · exact .inl hc
  · have e : v' = v := by
      have := at_ix hv'
      rw [h1, hv] at this
      injection this with this
      exact this.symm
    subst e
    rcases take_succ_mem hu h2 with z | z
    · exact .inr ⟨h1, z⟩
    · subst z; exact absurd hu' hm
theorem LcI.arc (h : LcI G mem i j B) {v u : Nat} (hn : mem.Nodup) (hv : mem[i]? = some v) (hu : (outs G v)[j]? = some u) (hm : u ∈ mem) : LcI G mem i (j + 1) (arc B i (mem.idxOf u)) := by
  have hi := (List.getElem?_eq_some_iff.mp hv).1
  have hum := at_ix hm
  refine ⟨by rw [arc_len]; exact h.len, fun a b hb => ?_, fun v' u' hv' hu' ho hc => ?_, ?_⟩
  · rcases outs_arc_mem B i _ a b hb with z | ⟨z1, z2⟩
    · exact h.snd a b z
    · subst z1 z2
      exact ⟨v, u, hv, hum, List.mem_of_getElem? hu⟩
  · rcases hc with hc | ⟨h1, h2⟩
    · exact outs_arc_of _ _ _ _ _ (h.com v' u' hv' hu' ho (.inl hc))
    · have e : v' = v := by
        have := at_ix hv'
        rw [h1, hv] at this
        injection this with this
        exact this.symm
      subst e
      rcases take_succ_mem hu h2 with z | z
      · exact outs_arc_of _ _ _ _ _ (h.com v' u' hv' hu' ho (.inr ⟨h1, z⟩))
      · subst z
        rw [h1, outs_arcT B i _ i (by rw [h.len]; exact hi)]
        simp
  · have := wt_arc_le B i (mem.idxOf u)
    have := h.wt
    omega
theorem LcI.next (h : LcI G mem i j B) {v : Nat} (hv : mem[i]? = some v) (hj : (outs G v).length ≤ j) (hj2 : j ≤ (outs G v).length) : LcI G mem (i + 1) 0 B := by
  refine ⟨h.len, h.snd, fun v' u' hv' hu' ho hc => h.com v' u' hv' hu' ho ?_, ?_⟩
  · rcases hc with hc | ⟨_, hc⟩
    · by_cases e : mem.idxOf v' < i
      · exact .inl e
      · have e2 : mem.idxOf v' = i := by omega
        have e3 : v' = v := by
          have := at_ix hv'
          rw [e2, hv] at this
          injection this with this
          exact this.symm
        subst e3
        exact .inr ⟨e2, by rw [List.take_of_length_le hj]; exact ho⟩
    · simp at hc
  · have := h.wt
    rw [List.take_add_one, hv, Option.toList_some, List.map_append, List.sum_append, List.map_singleton, List.sum_singleton]
    omega
theorem LcI.done (h : LcI G mem mem.length j B) (hn : mem.Nodup) {cmp : List Int} {L : Int} (hm : ∀ v, v ∈ mem ↔ cmp[v]? = some L) : Loc G B cmp L mem :=
  ⟨hn, hm, h.len, h.snd, fun v u hv hu ho => h.com v u hv hu ho (.inl (List.idxOf_lt_length_iff.mpr hv))⟩
end
theorem sum_outs (G : List (List Nat)) : ∀ (l : List Nat), l.Nodup → (∀ v ∈ l, v < G.length) → (l.map (fun v => (outs G v).length)).sum ≤ Go.Proofs.YbulkctquGreatFmt.wt G := by
  intro l hn hl
  have e : Go.Proofs.YbulkctquGreatFmt.wt G = ((List.range G.length).map (fun v => (outs G v).length)).sum := by
    unfold Go.Proofs.YbulkctquGreatFmt.wt
    congr 1
    refine List.ext_getElem? (fun i => ?_)
    by_cases hi : i < G.length
    · simp [hi, outs]
    · simp [hi]
  rw [e]
  have key : ∀ (l r : List Nat), l.Nodup → (∀ v ∈ l, v ∈ r) → (l.map (fun v => (outs G v).length)).sum ≤ (r.map (fun v => (outs G v).length)).sum := by
    intro l
    induction l with
    | nil => intro r _ _; simp
    | cons a l ih =>
      intro r hn hm
      have hn' := List.nodup_cons.mp hn
      have har := hm a (by simp)
      have h1 := ih (r.erase a) hn'.2 (fun v hv => (List.mem_erase_of_ne (fun (e : v = a) => hn'.1 (e ▸ hv))).mpr (hm v (by simp [hv])))
      have h2 := (List.perm_cons_erase har).map (fun v => (outs G v).length)
      have h3 := h2.sum_nat
      simp at h3 ⊢
      omega
  exact key l _ hn (fun v hv => List.mem_range.mpr (hl v hv))
end Go.Proofs.YbulkctquGreatFmt

/-
  tangle: the trail, slices.Index, propagate.
-/
import Derived.Test.YbulkctquGreatFmtTgD
import Derived.Test.YbulkctquGreatFmtHeap2
namespace Go.Proofs.YbulkctquGreatFmt
open Go.ChangeShapes Go.WideShapes Go.ChangeAt Go.RowKit Go.Ord
set_option linter.unusedVariables false
attribute [local go_sem ↓] Go.wp_at_zero Go.wp_at_succ

theorem slSteps : SliceOf Ybaz.prog 229 232 2 16 := by
  have hi : (Ybaz.prog.info? 232).map (fun i => (i.zero, i.size, i.bytes)) = some (some (.agg #[.int .i64 0, .bool false]), 2, 16) := by kernel_rfl
  obtain ⟨i, h1, h2, h3, h4⟩ := info_parts hi
  exact ⟨by kernel_rfl, i, _, h1, h2, h3, h4, rfl, by decide⟩
def stC (s : Stp) : List Value := [nI s.c, .bool s.g]
/-- The trail in its box. -/
structure TrB (bT : Nat) (fT : List Nat) (tr : List Stp) (w : World) : Prop where
  box : ∃ a c, w.cell? ⟨bT, 0, none⟩ = some (.slice a tr.length c) ∧ w.frozen? ⟨bT, 0, none⟩ = false ∧ Sl w 232 2 a tr.length c fT (tr.flatMap stC)
  nd : bT ∉ fT
theorem TrB.lt {bT : Nat} {fT : List Nat} {tr : List Stp} {w : World} (h : TrB bT fT tr w) : ∀ k ∈ bT :: fT, k < w.heap.size := by
  obtain ⟨a, c, h1, h2, h3⟩ := h.box
  intro k hk
  simp only [List.mem_cons] at hk
  rcases hk with rfl | hk
  · exact World.block_lt_of_cell? _ _ h1
  · exact h3.lt k hk
theorem TrB.keep {bT : Nat} {fT : List Nat} {tr : List Stp} {w w' : World} (h : TrB bT fT tr w) {S : List Nat} (hu : Upd S w w') (hS : ∀ k ∈ bT :: fT, k ∉ S) : TrB bT fT tr w' := by
  have lt := h.lt bT (by simp)
  obtain ⟨a, c, h1, h2, h3⟩ := h.box
  exact ⟨⟨a, c, hu.cell h1 (hS bT (by simp)), hu.free lt h2 (hS bT (by simp)), h3.keep hu (fun k hk => hS k (by simp [hk]))⟩, h.nd⟩
theorem stC_len (l : List Stp) : (l.flatMap stC).length = l.length * 2 := by
  induction l with
  | nil => rfl
  | cons a l ih => simp [stC, ih]; omega
set_option maxRecDepth 100000 in
/-- search's closure: one more step on the trail. -/
theorem made112 {bT : Nat} {fT : List Nat} {tr : List Stp} {w : World} (H : TrB bT fT tr w) (c v : Nat) (hl : tr.length < 1000000) :
    Calls Ybaz.prog 112 #[.int .i64 c, .pointer (some ⟨bT, 0, none⟩)] w fun e w' => e = .returned (.tuple #[]) ∧ ∃ fT', TrB bT fT' (tr ++ [⟨c, v, false⟩]) w' ∧ Upd (bT :: fT) w w' ∧ ∀ k ∈ fT', k ∈ fT ∨ w.heap.size ≤ k := by
  have lt := H.lt bT (by simp)
  obtain ⟨a, k, h1, h2, h3⟩ := H.box
  have S3 : Hid _ := h3
  have ND : Hid (bT ∉ fT) := H.nd
  clear H h3
  go_enter Ybaz.func112, Ybaz.ntmps112
  go_wp2_with (first
    | (at_builtin; refine wpList_append_elem w _ (Upd.refl [] _) rfl (.tmp 3) (.tmp 6) 229 rfl 232 2 16 slSteps (by decide) a tr.length k fT (tr.flatMap stC) rfl S3.out (by simp) [.int .i64 c, .bool false] rfl (by simp [Value.oneCell']) _ _ rfl (by simp) (by omega) ?_; intro gB cB w3 sB uB fB; go_loud (have y1 := uB.cell h1 (by simpa using ND.out)); go_loud (have y2 := uB.free lt h2 (by simpa using ND.out)); have SB : Hid _ := sB; have UB : Hid _ := uB; have FB : Hid _ := fB; clear sB uB fB))
  go_end0
  have gc : gB ≠ bT := by
    rintro rfl
    rcases FB.out with f | f
    · exact ND.out f
    · omega
  have st := Upd.store w3 bT 0 (.slice (some ⟨gB, 0, none⟩) (tr.length + 1) cB)
  refine ⟨rfl, [gB], ⟨⟨some ⟨gB, 0, none⟩, cB, by simpa using set_same y1, set_free y2, ?_⟩, by simpa using Ne.symm gc⟩, (UB.out.mono (T := bT :: fT) (fun k hk => .inl (by simp at hk; simp [hk]))).trans st (fun k hk => .inl (by simp at hk; simp [hk])), fun k hk => by simp at hk; subst hk; exact FB.out⟩
  have := SB.out.keep st (by simpa using gc)
  simpa [stC, nI] using this
set_option maxRecDepth 100000 in
/-- slices.Index of -1. -/
theorem index113 (w : World) (b c : Nat) (xs : List Int) (hl : xs.length < 1000000) (hc : ∀ (j : Nat) (x : Int), xs[j]? = some x → w.cell? ⟨b, j, none⟩ = some (.int .i64 x)) :
    Calls Ybaz.prog 113 #[.slice (some ⟨b, 0, none⟩) xs.length c, .int .i64 (-1)] w fun e w' => w' = w ∧ ((e = .returned (.int .i64 (-1)) ∧ ∀ x ∈ xs, x ≠ -1) ∨ ∃ k : Nat, e = .returned (.int .i64 k) ∧ xs[k]? = some (-1)) := by
  have HC : Hid (∀ (j : Nat) (x : Int), xs[j]? = some x → w.cell? ⟨b, j, none⟩ = some (.int .i64 x)) := hc
  clear hc
  go_enter Ybaz.func113, Ybaz.ntmps113
  go_wp2_with fail
  go_loopw [8] (fun t8 wr => ∃ i : Nat, i ≤ xs.length ∧ t8 = .int .i64 i ∧ (∀ (j : Nat) (y : Int), j < i → xs[j]? = some y → y ≠ -1) ∧ wr = w) (fun u _ => xs.length - (intOf u).toNat)
  case atStart => exact ⟨0, by omega, rfl, fun j y h => by omega, rfl⟩
  case round =>
    obtain ⟨i, hi, rfl, hn, rfl⟩ := hrel
    have HN : Hid (∀ (j : Nat) (y : Int), j < i → xs[j]? = some y → y ≠ -1) := hn
    clear hn
    by_cases hlt : i < xs.length
    · obtain ⟨x, hx⟩ := has_at xs hlt
      have cx := HC.out i x hx
      have HX : Hid (xs[i]? = some x) := hx
      clear hx
      by_cases he : x = -1
      · subst he
        go_wp2_with fail
        go_ret
        exact ⟨rfl, .inr ⟨i, rfl, HX.out⟩⟩
      · have he2 : ¬ (-1 : Int) = x := fun e => he e.symm
        go_wp2_with fail
        refine ⟨⟨i + 1, by omega, by go_num, fun j y hj hy => ?_, by first | trivial | rfl⟩, by simp [intOf] <;> omega⟩
        by_cases e : j = i
        · subst e; rw [HX.out] at hy; cases hy; exact he
        · exact HN.out j y (by omega) hy
    · have hi2 : i = xs.length := by omega
      go_wp2_with fail
      go_ret
      refine ⟨rfl, .inl ⟨rfl, fun x hx => ?_⟩⟩
      obtain ⟨j, hj⟩ := List.getElem?_of_mem hx
      exact HN.out j x (by have := (List.getElem?_eq_some_iff.mp hj).1; omega) hj
end Go.Proofs.YbulkctquGreatFmt

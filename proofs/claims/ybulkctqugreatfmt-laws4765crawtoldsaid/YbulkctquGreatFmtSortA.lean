/-
  slices.Sort at []uint64: it ends and writes its own row alone. cmp.Less, insertionSortOrdered, siftDownOrdered, heapSortOrdered, reverseRangeOrdered.
-/
import Derived.Test.YbulkctquGreatFmtHeap
import Derived.Test.YbulkctquGreatFmtRows
import Derived.Outline
import Derived.BigGuard
import Derived.BigCall
import Derived.CellFam
import Derived.Deep.Draws
import Derived.Deep.QuietTactic
import Derived.BigQuiet
namespace Go.Proofs.YbulkctquGreatFmt
open Go.ChangeShapes Go.WideShapes Go.ChangeAt Go.RowKit Go.Ord
set_option linter.unusedVariables false

/-- A row of n numbers of 64 bits, at the head of block b. -/
structure URow (w : World) (b n : Nat) : Prop where
  cells : ∃ G : Nat → Int, ∀ t, t < n → w.cell? ⟨b, t, none⟩ = some (.int .u64 (G t))
  free : ∀ t, t < n → w.frozen? ⟨b, t, none⟩ = false
theorem URow.drewN {w : World} {b n : Nat} (h : URow w b n) (q : Nat) : URow (w.drewN q) b n := ⟨h.cells, h.free⟩
theorem URow.put {w : World} {b n : Nat} (h : URow w b n) (j : Nat) (x : Int) : URow (w.setCell ⟨b, j, none⟩ (.int .u64 x)) b n := by
  obtain ⟨G, hG⟩ := h.cells
  refine ⟨⟨fun t => if t = j then x else G t, fun t ht => ?_⟩, fun t ht => set_free (h.free t ht)⟩
  by_cases e : t = j
  · subst e; simpa using set_same (hG t ht)
  · simp only [if_neg e]; exact set_other (hG t ht) (.inr (Ne.symm e))
/-- Of the row alone: what a part of the sort may do. -/
structure UDone (b n : Nat) (w w' : World) : Prop where
  row : URow w' b n
  upd : Upd [b] w w'
theorem UDone.drewN {b n : Nat} {w w' : World} (h : UDone b n w w') (q : Nat) : UDone b n w (w'.drewN q) := ⟨h.row.drewN q, h.upd.trans (Upd.drewN [] _ _) (by simp)⟩
theorem UDone.put {b n : Nat} {w w' : World} (h : UDone b n w w') (j : Nat) (x : Int) : UDone b n w (w'.setCell ⟨b, j, none⟩ (.int .u64 x)) := ⟨h.row.put j x, h.upd.trans (Upd.store _ _ _ _) (fun k hk => .inl hk)⟩
theorem UDone.trans {b n : Nat} {w w1 w2 : World} (h : UDone b n w w1) (k : UDone b n w1 w2) : UDone b n w w2 := ⟨k.row, h.upd.trans k.upd (fun k hk => .inl hk)⟩
theorem UDone.refl {b n : Nat} {w : World} (h : URow w b n) : UDone b n w w := ⟨h, Upd.refl _ _⟩

theorem nan64 (x : Int) (w : World) : Calls Ybaz.prog 58 #[.int .u64 x] w fun e w' => e = .returned (.bool false) ∧ w' = w := by
  go_enter Ybaz.func58, Ybaz.ntmps58
  go_wp2_with fail
  go_ret
  exact ⟨by simp, rfl⟩
theorem less64 (x y : Int) (w : World) : Calls Ybaz.prog 54 #[.int .u64 x, .int .u64 y] w fun e w' => e = .returned (.bool (decide (x < y))) ∧ w' = w := by
  go_enter Ybaz.func54, Ybaz.ntmps54
  go_wp2_with fail
  refine (nan64 x w).mono ?_
  rintro e w' ⟨rfl, rfl⟩
  go_wp2_with fail
  go_ret
  exact ⟨rfl, rfl⟩

set_option maxHeartbeats 32000000 in
set_option maxRecDepth 100000 in
theorem ins64 (b n cap x y : Nat) (w : World) (hr : URow w b n) (hxy : x ≤ y) (hy : y ≤ n) (hn : n < 1000000) :
    Calls Ybaz.prog 83 #[.slice (some ⟨b, 0, none⟩) n cap, .int .i64 x, .int .i64 y] w fun e w' => e = .returned (.tuple #[]) ∧ UDone b n w w' := by
  have HR : Hid _ := hr
  clear hr
  go_enter Ybaz.func83, Ybaz.ntmps83
  go_wp2_with fail
  go_loopw [6] (fun t6 wr => ∃ i : Nat, t6 = .int .i64 i ∧ x < i ∧ i ≤ y + 1 ∧ UDone b n w wr) (fun v _ => y + 1 - (intOf v).toNat)
  case atStart => exact ⟨x + 1, by go_num, by omega, by omega, .refl HR.out⟩
  case round =>
    obtain ⟨i, rfl, h1, h2, h3⟩ := hrel
    have D1 : Hid _ := h3
    clear h3
    by_cases hlt : i < y
    · obtain ⟨wq, hwq⟩ : ∃ x : World, x = wr := ⟨_, rfl⟩
      subst hwq
      go_wp2_with fail
      go_loopw [7] (fun t7 wx => ∃ j : Nat, t7 = .int .i64 j ∧ x ≤ j ∧ j ≤ i ∧ UDone b n w wx) (fun v _ => (intOf v).toNat)
      case atStart => exact ⟨i, rfl, by omega, by omega, D1.out⟩
      case round =>
        obtain ⟨j, rfl, h4, h5, h6⟩ := hrel
        obtain ⟨G, hG⟩ := h6.row.cells
        have hF := h6.row.free
        have D2 : Hid _ := h6
        clear h6
        by_cases hj : x < j
        · have hjn : j < n := by omega
          have hj0 : 1 ≤ j := by omega
          have hj6 : j < 1000000 := by omega
          have hj1 : j - 1 < n := by omega
          go_wp2_with fail
          go_big_quiet (first | (go_at_call 54; refine Calls.quiet_of_same (less64 _ _ _)))
          go_wp2_with fail
          · go_big_region
            all_goals go_wp2_with fail
            all_goals exact ⟨⟨j - 1, by go_num, by omega, by omega, ((D2.out.drewN _).put _ _).put _ _⟩, by simp [intOf]; omega⟩
          · exact ⟨⟨i + 1, by go_num, by omega, by omega, D2.out.drewN _⟩, by simp [intOf]; omega⟩
        · go_wp2_with fail
          go_big_quiet (first | (go_at_call 54; refine Calls.quiet_of_same (less64 _ _ _)))
          go_wp2_with fail
          exact ⟨⟨i + 1, by go_num, by omega, by omega, D2.out.drewN _⟩, by simp [intOf]; omega⟩
    · go_wp2_with fail
      go_end0
      exact ⟨rfl, D1.out⟩

set_option maxHeartbeats 4000000 in
set_option maxRecDepth 100000 in
theorem sift64 (b n cap lo hi x : Nat) (w : World) (hr : URow w b n) (hlo : lo < 1000000) (hx : x + hi ≤ n) (hn : n < 1000000) :
    Calls Ybaz.prog 104 #[.slice (some ⟨b, 0, none⟩) n cap, .int .i64 lo, .int .i64 hi, .int .i64 x] w fun e w' => e = .returned (.tuple #[]) ∧ UDone b n w w' := by
  have HR : Hid _ := hr
  clear hr
  go_enter Ybaz.func104, Ybaz.ntmps104
  go_wp2_with fail
  go_loopw [8] (fun t8 wr => ∃ i : Nat, t8 = .int .i64 i ∧ i < 1000000 ∧ UDone b n w wr) (fun v _ => hi - (intOf v).toNat)
  case atStart => exact ⟨lo, rfl, hlo, .refl HR.out⟩
  case round =>
    obtain ⟨i, rfl, h1, h3⟩ := hrel
    obtain ⟨G, hG⟩ := h3.row.cells
    have hF := h3.row.free
    have D1 : Hid _ := h3
    clear h3
    by_cases hlt : 2 * i + 1 < hi
    · have hlt' : ¬ (hi : Int) ≤ 2 * (i : Int) + 1 := by omega
      go_wp2_with fail
      obtain ⟨c, hc⟩ : ∃ c : Nat, c = 2 * i + 1 := ⟨_, rfl⟩
      rw [show 2 * (i : Int) + 1 = (c : Int) by omega]
      clear hlt'
      have hc1 : c < hi := by omega
      have hc2 : i < c := by omega
      have hc3 : x + c < n := by omega
      have hc4 : x + i < n := by omega
      have hc5 : x < 1000000 := by omega
      have hc6 : c < 1000000 := by omega
      have hc7 : hi < 1000000 := by omega
      clear hc hlt
      have hF1 : Hid _ := hF
      clear hF
      rcases Nat.lt_or_ge (c + 1) hi with hg | hg
      have hg1 : x + c + 1 < n := by omega
      have hg2 : x + c + 1 < 1000000 := by omega
      have hgd : decide ((c : Int) + 1 < (hi : Int)) = true := by simp; omega
      rotate_left
      have hgd : decide ((c : Int) + 1 < (hi : Int)) = false := by simp; omega
      rotate_left
      all_goals have hg3 : x + c < 1000000 := by omega
      all_goals have hg4 : x + i < 1000000 := by omega
      all_goals go_big_quiet (first | (go_at_call 54; refine Calls.quiet_of_same (less64 _ _ _)))
      all_goals go_wp2_with fail
      obtain ⟨k, hk⟩ : ∃ k : Nat, k = c + 1 := ⟨_, rfl⟩
      rw [show (c : Int) + 1 = (k : Int) by omega]
      rotate_left
      obtain ⟨k, hk⟩ : ∃ k : Nat, k = c := ⟨_, rfl⟩
      rw [← hk]
      rotate_left
      obtain ⟨k, hk⟩ : ∃ k : Nat, k = c := ⟨_, rfl⟩
      rw [← hk]
      rotate_left
      all_goals have hk1 : i < k := by omega
      all_goals have hk2 : k < hi := by omega
      all_goals have hk3 : x + k < n := by omega
      all_goals have hk4 : x + k < 1000000 := by omega
      all_goals have hk5 : k < 1000000 := by omega
      all_goals clear hk hc1 hc2 hc3
      all_goals obtain ⟨wz, hwz⟩ : ∃ z : World, z = wr.drewN nq := ⟨_, rfl⟩
      all_goals rw [← hwz]
      all_goals have hG2 : ∀ t, t < n → wz.cell? ⟨b, t, none⟩ = some (.int .u64 (G t)) := by rw [hwz]; exact hG
      all_goals have hF2 : ∀ t, t < n → wz.frozen? ⟨b, t, none⟩ = false := by rw [hwz]; exact hF1.out
      all_goals have D2 : UDone b n w wz := by rw [hwz]; exact D1.out.drewN nq
      all_goals have D3 : Hid _ := D2
      all_goals clear hwz hG D2 D1 hF1
      all_goals go_big_quiet (first | (go_at_call 54; refine Calls.quiet_of_same (less64 _ _ _)))
      all_goals go_wp2_with (first | go_big_region)
      all_goals first
        | (refine bodyPost_ret (results_none rfl _ _ _) rfl ?_; exact ⟨rfl, D3.out.drewN _⟩)
        | exact ⟨⟨k, rfl, by omega, ((D3.out.drewN _).put _ _).put _ _⟩, by simp [intOf]; omega⟩
    · have hlt' : (hi : Int) ≤ 2 * (i : Int) + 1 := by omega
      go_wp2_with fail
      go_end0
      exact ⟨rfl, D1.out⟩
end Go.Proofs.YbulkctquGreatFmt

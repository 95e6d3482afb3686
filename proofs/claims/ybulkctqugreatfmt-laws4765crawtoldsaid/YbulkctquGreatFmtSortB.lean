/-
  slices.Sort at []uint64: heapSortOrdered, reverseRangeOrdered, order2Ordered, medianOrdered, medianAdjacentOrdered, choosePivotOrdered.
-/
import Derived.Test.YbulkctquGreatFmtSortA
namespace Go.Proofs.YbulkctquGreatFmt
open Go.ChangeShapes Go.WideShapes Go.ChangeAt Go.RowKit Go.Ord
set_option linter.unusedVariables false

theorem sift64z (b n cap hi x : Nat) (w : World) (hr : URow w b n) (hx : x + hi ≤ n) (hn : n < 1000000) :
    Calls Ybaz.prog 104 #[.slice (some ⟨b, 0, none⟩) n cap, .int .i64 0, .int .i64 hi, .int .i64 x] w fun e w' => e = .returned (.tuple #[]) ∧ UDone b n w w' := sift64 b n cap 0 hi x w hr (by omega) hx hn

set_option maxHeartbeats 4000000 in
set_option maxRecDepth 100000 in
theorem heap64 (b n cap x y : Nat) (w : World) (hr : URow w b n) (hxy : x < y) (hy : y ≤ n) (hn : n < 1000000) :
    Calls Ybaz.prog 84 #[.slice (some ⟨b, 0, none⟩) n cap, .int .i64 x, .int .i64 y] w fun e w' => e = .returned (.tuple #[]) ∧ UDone b n w w' := by
  have HR : Hid _ := hr
  clear hr
  have hx2 : x < 1000000 := by omega
  go_enter Ybaz.func84, Ybaz.ntmps84
  go_wp2_with fail
  obtain ⟨L, hL0⟩ : ∃ L : Nat, (y : Int) - (x : Int) = L := ⟨y - x, by omega⟩
  rw [hL0]
  have hL : 1 ≤ L := by omega
  have hL2 : L < 1000000 := by omega
  have hL3 : x + L ≤ n := by omega
  clear hL0
  go_loopw [9] (fun t9 wr => ∃ i : Int, t9 = .int .i64 i ∧ -1 ≤ i ∧ i < L ∧ UDone b n w wr) (fun v _ => (intOf v + 1).toNat)
  case atStart => exact ⟨((L : Int) - 1) / 2, rfl, by omega, by omega, .refl HR.out⟩
  case round =>
    obtain ⟨i, rfl, h1, h2, h3⟩ := hrel
    have D1 : Hid _ := h3
    clear h3
    by_cases hlt : 0 ≤ i
    · obtain ⟨k, rfl⟩ : ∃ k : Nat, i = k := ⟨i.toNat, by omega⟩
      have hk : k < 1000000 := by omega
      go_wp2_with fail
      refine (sift64 b n cap k L x _ D1.out.row hk (by omega) hn).mono ?_
      rintro e w' ⟨rfl, h4⟩
      have D2 : Hid _ := h4
      clear h4
      go_wp2_with fail
      exact ⟨⟨(k : Int) - 1, rfl, by omega, by omega, D1.out.trans D2.out⟩, by simp [intOf] <;> omega⟩
    · go_wp2_with fail
      go_loopw [10] (fun t10 wr => ∃ i : Int, t10 = .int .i64 i ∧ -1 ≤ i ∧ i < L ∧ UDone b n w wr) (fun v _ => (intOf v + 1).toNat)
      case atStart => exact ⟨(L : Int) - 1, by go_num, by omega, by omega, D1.out⟩
      case round =>
        obtain ⟨j, rfl, h4, h5, h6⟩ := hrel
        obtain ⟨G, hG⟩ := h6.row.cells
        have hF := h6.row.free
        have D2 : Hid _ := h6
        clear h6
        by_cases hlt2 : 0 ≤ j
        · obtain ⟨k, rfl⟩ : ∃ k : Nat, j = k := ⟨j.toNat, by omega⟩
          have hk : k < 1000000 := by omega
          have hk1 : x + k < n := by omega
          have hk2 : x < n := by omega
          have hk3 : x + k < 1000000 := by omega
          rcases Nat.eq_zero_or_pos k with rfl | hk0
          · rw [show ((0 : Nat) : Int) = 0 from rfl]
            go_wp2_with fail
            go_big_region
            all_goals go_wp2_with fail
            all_goals refine Calls.mono (sift64 b n cap 0 0 x _ (((D2.out.drewN _).put _ _).put _ _).row (by omega) (by omega) hn) ?_
            all_goals rintro e w' ⟨rfl, h4⟩
            all_goals have h5 := (((D2.out.drewN _).put _ _).put _ _).trans h4
            all_goals have D3 : Hid _ := h5
            all_goals clear h4 h5
            all_goals go_wp2_with fail
            all_goals exact ⟨⟨-1, rfl, by omega, by omega, D3.out⟩, by simp [intOf] <;> omega⟩
          · go_wp2_with fail
            go_big_region
            all_goals go_wp2_with fail
            all_goals refine Calls.mono (sift64z b n cap k x _ (((D2.out.drewN _).put _ _).put _ _).row (by omega) hn) ?_
            all_goals rintro e w' ⟨rfl, h4⟩
            all_goals have h5 := (((D2.out.drewN _).put _ _).put _ _).trans h4
            all_goals have D3 : Hid _ := h5
            all_goals clear h4 h5
            all_goals go_wp2_with fail
            all_goals exact ⟨⟨(k : Int) - 1, rfl, by omega, by omega, D3.out⟩, by simp [intOf] <;> omega⟩
        · go_wp2_with fail
          go_end0
          exact ⟨rfl, D2.out⟩

set_option maxHeartbeats 4000000 in
set_option maxRecDepth 100000 in
theorem rev64 (b n cap x y : Nat) (w : World) (hr : URow w b n) (hxy : x < y) (hy : y ≤ n) (hn : n < 1000000) :
    Calls Ybaz.prog 87 #[.slice (some ⟨b, 0, none⟩) n cap, .int .i64 x, .int .i64 y] w fun e w' => e = .returned (.tuple #[]) ∧ UDone b n w w' := by
  have HR : Hid _ := hr
  clear hr
  have hy2 : y < 1000001 := by omega
  go_enter Ybaz.func87, Ybaz.ntmps87
  go_wp2_with fail
  go_loopw [6, 7] (fun t6 t7 wr => ∃ i j : Nat, t6 = .int .i64 i ∧ t7 = .int .i64 j ∧ i ≤ j + 1 ∧ j < y ∧ UDone b n w wr) (fun _ v _ => (intOf v).toNat)
  case atStart => exact ⟨x, y - 1, rfl, by go_num, by omega, by omega, .refl HR.out⟩
  case round =>
    obtain ⟨i, j, rfl, rfl, h1, h2, h3⟩ := hrel
    obtain ⟨G, hG⟩ := h3.row.cells
    have hF := h3.row.free
    have D1 : Hid _ := h3
    clear h3
    by_cases hlt : i < j
    · have hj1 : j < n := by omega
      have hi1 : i < n := by omega
      have hj0 : 1 ≤ j := by omega
      have hj6 : j < 1000000 := by omega
      have hi6 : i < 1000000 := by omega
      go_wp2_with (first | go_big_region)
      all_goals exact ⟨⟨i + 1, j - 1, by go_num, by go_num, by omega, by omega, ((D1.out.drewN _).put _ _).put _ _⟩, by simp [intOf] <;> omega⟩
    · go_wp2_with fail
      go_end0
      exact ⟨rfl, D1.out⟩

/-- The count of swaps in its own block. -/
structure USw (s : Nat) (m : Nat) (w w' : World) : Prop where
  cell : ∃ v : Nat, v ≤ m ∧ w'.cell? ⟨s, 0, none⟩ = some (.int .i64 v)
  free : w'.frozen? ⟨s, 0, none⟩ = false
  upd : Upd [s] w w'

theorem ord64 (b n cap x y s m : Nat) (w : World) (hr : URow w b n) (hx : x < n) (hy : y < n) (hn : n < 1000000) (w0 : World) (hs : USw s m w0 w) (hm : m < 1000000) :
    Calls Ybaz.prog 127 #[.slice (some ⟨b, 0, none⟩) n cap, .int .i64 x, .int .i64 y, .pointer (some ⟨s, 0, none⟩)] w fun e w' => (∃ p q : Nat, e = .returned (.tuple #[.int .i64 p, .int .i64 q]) ∧ (p = x ∧ q = y ∨ p = y ∧ q = x)) ∧ USw s (m + 1) w0 w' := by
  obtain ⟨G, hG⟩ := hr.cells
  obtain ⟨v, hv, hc⟩ := hs.cell
  have hz := hs.free
  have HS : Hid _ := hs
  clear hs hr
  have hv2 : v < 1000000 := by omega
  go_enter Ybaz.func127, Ybaz.ntmps127
  go_wp2_with (first | go_big_quiet (first | (go_at_call 54; refine Calls.quiet_of_same (less64 _ _ _))))
  · go_ret2
    refine ⟨⟨y, x, rfl, .inr ⟨rfl, rfl⟩⟩, ⟨v + 1, by omega, by simpa using set_same (w := w.drewN _) (b := s) (j := 0) (v := .int .i64 ((v : Int) + 1)) hc⟩, set_free hz, (HS.out.upd.trans (Upd.drewN [] _ _) (by simp)).trans (Upd.store _ _ _ _) (fun k hk => .inl hk)⟩
  · go_ret2
    exact ⟨⟨x, y, rfl, .inl ⟨rfl, rfl⟩⟩, ⟨v, by omega, hc⟩, hz, HS.out.upd.trans (Upd.drewN [] _ _) (by simp)⟩
end Go.Proofs.YbulkctquGreatFmt

/-
  slices.Sort at []uint64: partitionEqualOrdered, partitionOrdered.
-/
import Derived.Test.YbulkctquGreatFmtSortC
import Derived.Deep.DeepCutAuto
namespace Go.Proofs.YbulkctquGreatFmt
open Go.ChangeShapes Go.WideShapes Go.ChangeAt Go.RowKit Go.Ord
set_option linter.unusedVariables false

theorem swap_at {w : World} {b n : Nat} {G : Nat → Int} (hG : ∀ t, t < n → w.cell? ⟨b, t, none⟩ = some (.int .u64 (G t))) {p q : Nat} (hp : p < n) (hq : q < n) :
    (w.setCell ⟨b, p, none⟩ (.int .u64 (G q))).cell? ⟨b, q, none⟩ = some (.int .u64 (G q)) := by
  by_cases e : p = q
  · subst e; exact set_same (hG p hp)
  · exact set_other (hG q hq) (.inr e)

set_option maxHeartbeats 4000000 in
set_option maxRecDepth 100000 in
theorem partEq64 (b n cap x y v : Nat) (w : World) (hr : URow w b n) (hxy : x + 1 < y) (hy : y ≤ n) (hv : v < n) (hn : n < 1000000) :
    Calls Ybaz.prog 89 #[.slice (some ⟨b, 0, none⟩) n cap, .int .i64 x, .int .i64 y, .int .i64 v] w fun e w' => (∃ m : Nat, e = .returned (.int .i64 m) ∧ x < m ∧ m ≤ y) ∧ UDone b n w w' := by
  obtain ⟨G, hG⟩ := hr.cells
  have hF := hr.free
  have HR : Hid _ := hr
  clear hr
  have hx1 : x < n := by omega
  have hx2 : x < 1000000 := by omega
  have hy2 : y < 1000001 := by omega
  have hv2 : v < 1000000 := by omega
  have hst := swap_at hG hx1 hv
  go_enter Ybaz.func89, Ybaz.ntmps89
  go_wp2_with fail
  go_big_region
  go_wp2_with fail
  go_loopw [9, 10] (fun t9 t10 wr => ∃ i j : Nat, t9 = .int .i64 i ∧ t10 = .int .i64 j ∧ x < i ∧ i ≤ y ∧ x ≤ j ∧ j < y ∧ UDone b n w wr) (fun u v _ => (intOf v + 2 - intOf u).toNat)
  case atStart => exact ⟨x + 1, y - 1, by go_num, by go_num, by omega, by omega, by omega, by omega, ((UDone.refl HR.out).drewN 1 |>.put _ _).put _ _⟩
  case round =>
    obtain ⟨i, j, rfl, rfl, h1, h2, h3, h4, h5⟩ := hrel
    have D1 : Hid _ := h5
    clear h5 hG hF hst
    obtain ⟨wq, hwq⟩ : ∃ z : World, z = wr := ⟨_, rfl⟩
    subst hwq
    go_wp2_with fail
    go_loopw [9] (fun t9 wx => ∃ i' : Nat, t9 = .int .i64 i' ∧ i ≤ i' ∧ (i' = i ∨ i' ≤ j + 1) ∧ UDone b n w wx) (fun u _ => (j + 2 - (intOf u).toNat))
    case atStart => exact ⟨i, rfl, by omega, by omega, D1.out⟩
    case round =>
      obtain ⟨k, rfl, h5, h6, h7⟩ := hrel
      obtain ⟨G, hG⟩ := h7.row.cells
      have D2 : Hid _ := h7
      clear h7
      have hx1 : x < n := by omega
      by_cases hk : k ≤ j
      have hk1 : k < n := by omega
      have hk6 : k < 1000000 := by omega
      all_goals go_wp2_with fail
      all_goals go_big_quiet (first | (go_at_call 54; refine Calls.quiet_of_same (less64 _ _ _)))
      all_goals go_wp2_with fail
      all_goals try exact ⟨⟨k + 1, by go_num, by omega, by omega, D2.out.drewN _⟩, by simp [intOf] <;> omega⟩
      all_goals obtain ⟨wz, hwz⟩ : ∃ z : World, z = wr.drewN nq := ⟨_, rfl⟩
      all_goals have d3 := D2.out.drewN nq
      all_goals rw [← hwz] at d3 ⊢
      all_goals have D3 : Hid _ := d3
      all_goals clear hwz d3 hG
      all_goals (
        go_loopw [10] (fun t10 wx => ∃ j' : Nat, t10 = .int .i64 j' ∧ j' ≤ j ∧ (j' = j ∨ k ≤ j' + 1) ∧ UDone b n w wx) (fun u _ => (intOf u).toNat)
        case atStart => exact ⟨j, rfl, by omega, by omega, D3.out⟩
        case round =>
          obtain ⟨l, rfl, h8, h9, h10⟩ := hrel
          obtain ⟨G, hG⟩ := h10.row.cells
          have D4 : Hid _ := h10
          have hF := h10.row.free
          clear h10
          by_cases hl : k ≤ l
          have hl1 : l < n := by omega
          have hl6 : l < 1000000 := by omega
          have hl7 : 1 ≤ l := by omega
          all_goals go_wp2_with fail
          all_goals go_big_quiet (first | (go_at_call 54; refine Calls.quiet_of_same (less64 _ _ _)))
          all_goals go_wp2_with fail
          all_goals try exact ⟨⟨l - 1, by go_num, by omega, by omega, D4.out.drewN _⟩, by simp [intOf] <;> omega⟩
          all_goals try (go_ret; exact ⟨⟨k, rfl, by omega, by omega⟩, D4.out.drewN _⟩)
          all_goals have hkl1 : k < n := by omega
          all_goals have hkl2 : k < 1000000 := by omega
          all_goals have hst := swap_at (w := wr.drewN (nq + 1)) hG hkl1 hl1
          all_goals go_big_region
          all_goals go_wp2_with fail
          all_goals exact ⟨⟨k + 1, l - 1, by go_num, by go_num, by omega, by omega, by omega, by omega, ((D4.out.drewN _).put _ _).put _ _⟩, by simp [intOf] <;> omega⟩)

set_option maxHeartbeats 8000000 in
set_option maxRecDepth 100000 in
theorem part64 (b n cap x y v : Nat) (w : World) (hr : URow w b n) (hxy : x + 1 < y) (hy : y ≤ n) (hv : v < n) (hn : n < 1000000) :
    Calls Ybaz.prog 90 #[.slice (some ⟨b, 0, none⟩) n cap, .int .i64 x, .int .i64 y, .int .i64 v] w fun e w' => (∃ (m : Nat) (q : Bool), e = .returned (.tuple #[.int .i64 m, .bool q]) ∧ x ≤ m ∧ m < y) ∧ UDone b n w w' := by
  obtain ⟨G, hG⟩ := hr.cells
  have hF := hr.free
  have HR : Hid _ := hr
  clear hr
  have hx1 : x < n := by omega
  have hx2 : x < 1000000 := by omega
  have hy2 : y < 1000001 := by omega
  have hv2 : v < 1000000 := by omega
  have hst := swap_at hG hx1 hv
  go_enter Ybaz.func90, Ybaz.ntmps90
  go_wp2_with fail
  go_big_region
  go_wp2_with fail
  clear hG hF hst
  obtain ⟨j, hj⟩ : ∃ j : Nat, (y : Int) - 1 = j := ⟨y - 1, by omega⟩
  rw [hj]
  have hj1 : j < y := by omega
  have hj2 : x < j := by omega
  have hj6 : j < 1000000 := by omega
  clear hj
  -- the first two loops
  go_loopw [10] (fun t10 wx => ∃ i : Nat, t10 = .int .i64 i ∧ x < i ∧ i ≤ j + 1 ∧ UDone b n w wx) (fun u _ => (j + 2 - (intOf u).toNat))
  case atStart => exact ⟨x + 1, by go_num, by omega, by omega, ((UDone.refl HR.out).drewN 1 |>.put _ _).put _ _⟩
  case round =>
    obtain ⟨k, rfl, h1, h2, h7⟩ := hrel
    obtain ⟨G, hG⟩ := h7.row.cells
    have D2 : Hid _ := h7
    clear h7
    by_cases hk : k ≤ j
    have hk1 : k < n := by omega
    have hk6 : k < 1000000 := by omega
    all_goals go_wp2_with fail
    all_goals go_big_quiet (first | (go_at_call 54; refine Calls.quiet_of_same (less64 _ _ _)))
    all_goals go_wp2_with fail
    all_goals try exact ⟨⟨k + 1, by go_num, by omega, by omega, D2.out.drewN _⟩, by simp [intOf] <;> omega⟩
    all_goals obtain ⟨wz, hwz⟩ : ∃ z : World, z = wr.drewN nq := ⟨_, rfl⟩
    all_goals have d3 := D2.out.drewN nq
    all_goals rw [← hwz] at d3 ⊢
    all_goals have D3 : Hid _ := d3
    all_goals clear hwz d3 hG
    all_goals (
      go_loopw [11] (fun t11 wx => ∃ l : Nat, t11 = .int .i64 l ∧ l ≤ j ∧ k ≤ l + 1 ∧ UDone b n w wx) (fun u _ => (intOf u).toNat)
      case atStart => exact ⟨j, rfl, by omega, by omega, D3.out⟩
      case round =>
        obtain ⟨l, rfl, h8, h9, h10⟩ := hrel
        obtain ⟨G, hG⟩ := h10.row.cells
        have D4 : Hid _ := h10
        have hF := h10.row.free
        clear h10
        have hl1 : l < n := by omega
        have hl6 : l < 1000000 := by omega
        by_cases hl : k ≤ l
        have hl7 : 1 ≤ l := by omega
        all_goals go_wp2_with fail
        all_goals go_big_quiet (first | (go_at_call 54; refine Calls.quiet_of_same (less64 _ _ _)))
        all_goals go_wp2_with fail
        all_goals try exact ⟨⟨l - 1, by go_num, by omega, by omega, D4.out.drewN _⟩, by simp [intOf] <;> omega⟩
        all_goals have hkn : k < n ∨ ¬ k ≤ l := by omega
        all_goals have HKN : Hid _ := hkn
        all_goals clear hkn
        all_goals try (
          have hst := swap_at (w := wr.drewN (nq + 1)) hG hl1 hx1
          go_big_region
          all_goals go_wp2_with fail
          all_goals go_ret2
          all_goals exact ⟨⟨l, true, rfl, by omega, by omega⟩, ((D4.out.drewN _).put _ _).put _ _⟩)
        all_goals (
          have hkn : k < n := by have := HKN.out; omega
          have hk6' : k < 1000000 := by omega
          have hst := swap_at (w := wr.drewN (nq + 1)) hG hkn hl1
          go_big_region
          go_wp2_with fail
          have d5 := ((D4.out.drewN (nq + 1)).put k (G l)).put l (G k)
          have D5 : Hid _ := d5
          clear d5 hst hG hF
          go_loopw [10, 11] (fun t10 t11 wr => ∃ i j : Nat, t10 = .int .i64 i ∧ t11 = .int .i64 j ∧ x < i ∧ i ≤ y ∧ x ≤ j ∧ j < y ∧ i ≤ j + 2 ∧ UDone b n w wr) (fun u v _ => (intOf v + 2 - intOf u).toNat)
          case atStart => exact ⟨k + 1, l - 1, by go_num, by go_num, by omega, by omega, by omega, by omega, by omega, D5.out⟩
          case round =>
            obtain ⟨i, j, rfl, rfl, g1, g2, g3, g4, g6, g5⟩ := hrel
            have D6 : Hid _ := g5
            clear g5
            obtain ⟨wq, hwq⟩ : ∃ z : World, z = wr := ⟨_, rfl⟩
            subst hwq
            go_wp2_with fail
            go_loopw [10] (fun t9 wx => ∃ i' : Nat, t9 = .int .i64 i' ∧ i ≤ i' ∧ (i' = i ∨ i' ≤ j + 1) ∧ UDone b n w wx) (fun u _ => (j + 2 - (intOf u).toNat))
            case atStart => exact ⟨i, rfl, by omega, by omega, D6.out⟩
            case round =>
              obtain ⟨p, rfl, g5, g7, g8⟩ := hrel
              obtain ⟨G, hG⟩ := g8.row.cells
              have D7 : Hid _ := g8
              clear g8
              by_cases hp : p ≤ j
              have hp1 : p < n := by omega
              have hp6 : p < 1000000 := by omega
              all_goals go_wp2_with fail
              all_goals go_big_quiet (first | (go_at_call 54; refine Calls.quiet_of_same (less64 _ _ _)))
              all_goals go_wp2_with fail
              all_goals try exact ⟨⟨p + 1, by go_num, by omega, by omega, D7.out.drewN _⟩, by simp [intOf] <;> omega⟩
              all_goals obtain ⟨wz, hwz⟩ : ∃ z : World, z = wr.drewN nq := ⟨_, rfl⟩
              all_goals have d3 := D7.out.drewN nq
              all_goals rw [← hwz] at d3 ⊢
              all_goals have D8 : Hid _ := d3
              all_goals clear hwz d3 hG
              all_goals (
                go_loopw [11] (fun t10 wx => ∃ j' : Nat, t10 = .int .i64 j' ∧ j' ≤ j ∧ (j' = j ∨ p ≤ j' + 1) ∧ UDone b n w wx) (fun u _ => (intOf u).toNat)
                case atStart => exact ⟨j, rfl, by omega, by omega, D8.out⟩
                case round =>
                  obtain ⟨q, rfl, h8, h9, h10⟩ := hrel
                  obtain ⟨G, hG⟩ := h10.row.cells
                  have D9 : Hid _ := h10
                  have hF := h10.row.free
                  clear h10
                  have hq1 : q < n := by omega
                  have hq6 : q < 1000000 := by omega
                  by_cases hq : p ≤ q
                  have hq7 : 1 ≤ q := by omega
                  all_goals go_wp2_with fail
                  all_goals go_big_quiet (first | (go_at_call 54; refine Calls.quiet_of_same (less64 _ _ _)))
                  all_goals go_wp2_with fail
                  all_goals try exact ⟨⟨q - 1, by go_num, by omega, by omega, D9.out.drewN _⟩, by simp [intOf] <;> omega⟩
                  all_goals try (
                    have hst := swap_at (w := wr.drewN (nq + 1)) hG hq1 hx1
                    go_big_region
                    all_goals go_wp2_with fail
                    all_goals go_ret2
                    all_goals exact ⟨⟨q, false, rfl, by omega, by omega⟩, ((D9.out.drewN _).put _ _).put _ _⟩)
                  all_goals have hkl1 : p < n := by omega
                  all_goals have hkl2 : p < 1000000 := by omega
                  all_goals have hst := swap_at (w := wr.drewN (nq + 1)) hG hkl1 hq1
                  all_goals go_big_region
                  all_goals go_wp2_with fail
                  all_goals exact ⟨⟨p + 1, q - 1, by go_num, by go_num, by omega, by omega, by omega, by omega, by omega, ((D9.out.drewN _).put _ _).put _ _⟩, by simp [intOf] <;> omega⟩)))
end Go.Proofs.YbulkctquGreatFmt

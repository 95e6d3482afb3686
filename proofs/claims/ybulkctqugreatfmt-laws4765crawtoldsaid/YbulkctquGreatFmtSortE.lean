/-
  slices.Sort at []uint64: partialInsertionSortOrdered.
-/
import Derived.Test.YbulkctquGreatFmtSortC
namespace Go.Proofs.YbulkctquGreatFmt
open Go.ChangeShapes Go.WideShapes Go.ChangeAt Go.RowKit Go.Ord
set_option linter.unusedVariables false

set_option maxHeartbeats 8000000 in
set_option maxRecDepth 100000 in
theorem pins64 (b n cap x y : Nat) (w : World) (hr : URow w b n) (hxy : x < y) (hy : y ≤ n) (hn : n < 1000000) :
    Calls Ybaz.prog 88 #[.slice (some ⟨b, 0, none⟩) n cap, .int .i64 x, .int .i64 y] w fun e w' => (∃ q : Bool, e = .returned (.bool q)) ∧ UDone b n w w' := by
  have HR : Hid _ := hr
  clear hr
  have hx2 : x < 1000000 := by omega
  have hy2 : y < 1000001 := by omega
  go_enter Ybaz.func88, Ybaz.ntmps88
  go_wp2_with fail
  go_loopw [7, 8] (fun t7 t8 wr => ∃ i j : Nat, t7 = .int .i64 i ∧ t8 = .int .i64 j ∧ x < i ∧ i ≤ y ∧ j ≤ 5 ∧ UDone b n w wr) (fun _ v _ => 5 - (intOf v).toNat)
  case atStart => exact ⟨x + 1, 0, by go_num, rfl, by omega, by omega, by omega, .refl HR.out⟩
  case round =>
    obtain ⟨i, j, rfl, rfl, h1, h2, h3, h4⟩ := hrel
    have D1 : Hid _ := h4
    clear h4
    by_cases hj : j < 5
    · obtain ⟨wq, hwq⟩ : ∃ z : World, z = wr := ⟨_, rfl⟩
      subst hwq
      go_wp2_with fail
      go_loopw [7] (fun t7 wx => ∃ k : Nat, t7 = .int .i64 k ∧ x < k ∧ k ≤ y ∧ UDone b n w wx) (fun u _ => y - (intOf u).toNat)
      case atStart => exact ⟨i, rfl, by omega, by omega, D1.out⟩
      case round =>
        obtain ⟨k, rfl, h5, h6, h7⟩ := hrel
        obtain ⟨G, hG⟩ := h7.row.cells
        have hF := h7.row.free
        have D2 : Hid _ := h7
        clear h7
        have hk0 : 1 ≤ k := by omega
        have hk6 : k < 1000001 := by omega
        have hk7 : k - 1 < n := by omega
        by_cases hk : k < y
        have hk1 : k < n := by omega
        all_goals go_wp2_with fail
        all_goals go_big_quiet (first | (go_at_call 54; refine Calls.quiet_of_same (less64 _ _ _)))
        all_goals go_wp2_with fail
        all_goals try exact ⟨⟨k + 1, by go_num, by omega, by omega, D2.out.drewN _⟩, by simp [intOf] <;> omega⟩
        all_goals try (go_ret; exact ⟨⟨_, rfl⟩, D2.out.drewN _⟩)
        all_goals go_big_region
        all_goals go_wp2_with fail
        all_goals have d3 := ((D2.out.drewN (nq + 1)).put k (G (k - 1))).put (k - 1) (G k)
        all_goals have D3 : Hid _ := d3
        all_goals clear d3 hG hF
        · go_loopw [9] (fun t9 wx => ∃ p : Nat, t9 = .int .i64 p ∧ p + 1 ≤ k ∧ UDone b n w wx) (fun u _ => (intOf u).toNat)
          case atStart => exact ⟨k - 1, by go_num, by omega, D3.out⟩
          case round =>
            obtain ⟨p, rfl, e1, e3⟩ := hrel
            obtain ⟨G, hG⟩ := e3.row.cells
            have hF := e3.row.free
            have E0 : Hid _ := e3
            clear e3
            have hp6 : p < 1000001 := by omega
            have hp1 : p < n := by omega
            by_cases hp : 1 ≤ p
            · have hp7 : p - 1 < n := by omega
              go_wp2_with fail
              go_big_quiet (first | (go_at_call 54; refine Calls.quiet_of_same (less64 _ _ _)))
              go_wp2_with fail
              · have e4 := E0.out.drewN nq
                obtain ⟨wz, hwz⟩ : ∃ z : World, z = wr.drewN nq := ⟨_, rfl⟩
                rw [← hwz] at e4 ⊢
                have E4 : Hid _ := e4
                clear e4 hwz hG hF
                go_loopw [10] (fun t10 wx => ∃ p : Nat, t10 = .int .i64 p ∧ k < p ∧ p ≤ y ∧ UDone b n w wx) (fun u _ => y - (intOf u).toNat)
                case atStart => exact ⟨k + 1, by go_num, by omega, by omega, E4.out⟩
                case round =>
                  obtain ⟨p, rfl, e1, e2, e3⟩ := hrel
                  obtain ⟨G, hG⟩ := e3.row.cells
                  have hF := e3.row.free
                  have E1 : Hid _ := e3
                  clear e3
                  have hp0 : 1 ≤ p := by omega
                  have hp6 : p < 1000001 := by omega
                  have hp7 : p - 1 < n := by omega
                  by_cases hp : p < y
                  · have hp1 : p < n := by omega
                    go_wp2_with fail
                    go_big_quiet (first | (go_at_call 54; refine Calls.quiet_of_same (less64 _ _ _)))
                    go_wp2_with fail
                    · exact ⟨⟨k, j + 1, rfl, by go_num, by omega, by omega, by omega, E1.out.drewN _⟩, by simp [intOf] <;> omega⟩
                    · go_big_region
                      all_goals go_wp2_with fail
                      all_goals exact ⟨⟨p + 1, by go_num, by omega, by omega, ((E1.out.drewN _).put _ _).put _ _⟩, by simp [intOf] <;> omega⟩
                  · go_wp2_with fail
                    exact ⟨⟨k, j + 1, rfl, by go_num, by omega, by omega, by omega, E1.out⟩, by simp [intOf] <;> omega⟩
              · exact ⟨⟨k, j + 1, rfl, by go_num, by omega, by omega, by omega, E0.out.drewN _⟩, by simp [intOf] <;> omega⟩
              · go_big_region
                all_goals go_wp2_with fail
                all_goals exact ⟨⟨p - 1, by go_num, by omega, ((E0.out.drewN _).put _ _).put _ _⟩, by simp [intOf] <;> omega⟩
            · go_wp2_with fail
              · clear hG hF
                go_loopw [10] (fun t10 wx => ∃ p : Nat, t10 = .int .i64 p ∧ k < p ∧ p ≤ y ∧ UDone b n w wx) (fun u _ => y - (intOf u).toNat)
                case atStart => exact ⟨k + 1, by go_num, by omega, by omega, E0.out⟩
                case round =>
                  obtain ⟨p, rfl, e1, e2, e3⟩ := hrel
                  obtain ⟨G, hG⟩ := e3.row.cells
                  have hF := e3.row.free
                  have E1 : Hid _ := e3
                  clear e3
                  have hp0 : 1 ≤ p := by omega
                  have hp6 : p < 1000001 := by omega
                  have hp7 : p - 1 < n := by omega
                  by_cases hp : p < y
                  · have hp1 : p < n := by omega
                    go_wp2_with fail
                    go_big_quiet (first | (go_at_call 54; refine Calls.quiet_of_same (less64 _ _ _)))
                    go_wp2_with fail
                    · exact ⟨⟨k, j + 1, rfl, by go_num, by omega, by omega, by omega, E1.out.drewN _⟩, by simp [intOf] <;> omega⟩
                    · go_big_region
                      all_goals go_wp2_with fail
                      all_goals exact ⟨⟨p + 1, by go_num, by omega, by omega, ((E1.out.drewN _).put _ _).put _ _⟩, by simp [intOf] <;> omega⟩
                  · go_wp2_with fail
                    exact ⟨⟨k, j + 1, rfl, by go_num, by omega, by omega, by omega, E1.out⟩, by simp [intOf] <;> omega⟩
              · exact ⟨⟨k, j + 1, rfl, by go_num, by omega, by omega, by omega, E0.out⟩, by simp [intOf] <;> omega⟩
        · clear hk7
          have hk7 : Hid _ := D3.out
          go_loopw [10] (fun t10 wx => ∃ p : Nat, t10 = .int .i64 p ∧ k < p ∧ p ≤ y ∧ UDone b n w wx) (fun u _ => y - (intOf u).toNat)
          case atStart => exact ⟨k + 1, by go_num, by omega, by omega, D3.out⟩
          case round =>
            obtain ⟨p, rfl, e1, e2, e3⟩ := hrel
            obtain ⟨G, hG⟩ := e3.row.cells
            have hF := e3.row.free
            have E1 : Hid _ := e3
            clear e3
            have hp0 : 1 ≤ p := by omega
            have hp6 : p < 1000001 := by omega
            have hp7 : p - 1 < n := by omega
            by_cases hp : p < y
            · have hp1 : p < n := by omega
              go_wp2_with fail
              go_big_quiet (first | (go_at_call 54; refine Calls.quiet_of_same (less64 _ _ _)))
              go_wp2_with fail
              · exact ⟨⟨k, j + 1, rfl, by go_num, by omega, by omega, by omega, E1.out.drewN _⟩, by simp [intOf] <;> omega⟩
              · go_big_region
                all_goals go_wp2_with fail
                all_goals exact ⟨⟨p + 1, by go_num, by omega, by omega, ((E1.out.drewN _).put _ _).put _ _⟩, by simp [intOf] <;> omega⟩
            · go_wp2_with fail
              exact ⟨⟨k, j + 1, rfl, by go_num, by omega, by omega, by omega, E1.out⟩, by simp [intOf] <;> omega⟩
    · go_wp2_with fail
      go_ret
      exact ⟨⟨_, rfl⟩, D1.out⟩
end Go.Proofs.YbulkctquGreatFmt

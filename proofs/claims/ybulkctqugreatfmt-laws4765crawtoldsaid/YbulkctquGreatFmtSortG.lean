/-
  slices.Sort at []uint64: pdqsortOrdered, Sort.
-/
import Derived.Test.YbulkctquGreatFmtSortE
import Derived.Test.YbulkctquGreatFmtSortF
namespace Go.Proofs.YbulkctquGreatFmt
open Go.ChangeShapes Go.WideShapes Go.ChangeAt Go.RowKit Go.Ord
set_option linter.unusedVariables false

theorem UDone.upd0 {b n : Nat} {w w1 w2 : World} (h : UDone b n w w1) (k : Upd [] w1 w2) : UDone b n w w2 := ⟨h.row.keep k (by simp), h.upd.trans k (by simp)⟩

set_option maxHeartbeats 16000000 in
set_option maxRecDepth 100000 in
theorem pdq64 (b n cap : Nat) (hn : n < 1000000) : ∀ (N x y l : Nat) (w : World), y - x < N → x ≤ y → y ≤ n → l < 1000 → URow w b n → b < w.heap.size →
    Calls Ybaz.prog 52 #[.slice (some ⟨b, 0, none⟩) n cap, .int .i64 x, .int .i64 y, .int .i64 l] w fun e w' => e = .returned (.tuple #[]) ∧ UDone b n w w' := by
  intro N
  induction N with
  | zero => intro x y l w h; omega
  | succ N ih =>
    intro x y l w hN hxy hy hl hr hb
    have IH : Hid _ := ih
    have HR : Hid _ := hr
    clear ih hr
    go_enter Ybaz.func52, Ybaz.ntmps52
    go_wp2_with fail
    go_loopw [1, 2, 3, 8, 9] (fun t1 t2 t3 t8 t9 wr => ∃ (x' y' l' : Nat) (p q : Bool), t1 = .int .i64 x' ∧ t2 = .int .i64 y' ∧ t3 = .int .i64 l' ∧ t8 = .bool p ∧ t9 = .bool q ∧ x ≤ x' ∧ x' ≤ y' ∧ y' ≤ y ∧ l' < 1000 ∧ UDone b n w wr) (fun u v _ _ _ _ => (intOf v - intOf u).toNat)
    case atStart => exact ⟨x, y, l, true, true, rfl, rfl, rfl, rfl, rfl, by omega, by omega, by omega, by omega, .refl HR.out⟩
    case round =>
      obtain ⟨x', y', l', p, q, rfl, rfl, rfl, rfl, rfl, h1, h2, h3, h4, h5⟩ := hrel
      have D1 : Hid _ := h5
      clear h5
      have hx6 : x' < 1000001 := by omega
      have hy6 : y' < 1000001 := by omega
      have hb1 : b < wr.heap.size := Nat.lt_of_lt_of_le hb D1.out.upd.size
      have HB1 : Hid _ := hb1
      clear hb1
      by_cases hs : y' ≤ x' + 12
      · have hs1 : (y' : Int) - (x' : Int) ≤ 12 := by omega
        go_wp2_with fail
        refine (ins64 b n cap x' y' wr D1.out.row h2 (by omega) hn).mono ?_
        rintro e w1 ⟨rfl, d2⟩
        have D2 : Hid _ := d2
        clear d2
        go_wp2_with fail
        refine bodyPost_ret (results_none rfl _ _ _) rfl ?_
        exact ⟨rfl, D1.out.trans D2.out⟩
      · have hs1 : ¬ (y' : Int) - (x' : Int) ≤ 12 := by omega
        by_cases hl0 : l' = 0
        · subst hl0
          go_wp2_with fail
          refine (heap64 b n cap x' y' wr D1.out.row (by omega) (by omega) hn).mono ?_
          rintro e w1 ⟨rfl, d2⟩
          have D2 : Hid _ := d2
          clear d2
          go_wp2_with fail
          refine bodyPost_ret (results_none rfl _ _ _) rfl ?_
          exact ⟨rfl, D1.out.trans D2.out⟩
        · have hl1 : ¬ (l' : Int) = 0 := by omega
          cases p
          all_goals go_wp2_with fail
          -- the patterns broken, or not
          · refine (break64 b n cap x' y' wr D1.out.row HB1.out (by omega) (by omega) hn).mono ?_
            rintro e W1 ⟨rfl, d2⟩
            have D2 : Hid (UDone b n w W1) := D1.out.trans d2
            clear d2
            have HB2 : Hid (b < W1.heap.size) := Nat.lt_of_lt_of_le hb D2.out.upd.size
            go_wp2_with fail
            obtain ⟨l1, hl2⟩ : ∃ v : Nat, (l' : Int) - 1 = v := ⟨l' - 1, by omega⟩
            rw [hl2]
            have hl3 : l1 < 1000 := by omega
            clear hl2
            refine (pivot64 b n cap x' y' W1 D2.out.row HB2.out (by omega) (by omega) hn).mono ?_
            rintro e W2 ⟨⟨pv, hh, rfl, b1, b2, b3⟩, u2⟩
            have D3 : Hid (UDone b n w W2) := D2.out.upd0 u2
            clear u2
            have hpv6 : pv < 1000001 := by omega
            have hpvn : pv < n := by omega
            have hx0n : x' - 1 < n := by omega
            by_cases hh2 : hh = 2
            · subst hh2
              clear b3
              go_wp2_with fail
              refine (rev64 b n cap x' y' W2 D3.out.row (by omega) (by omega) hn).mono ?_
              rintro e W3 ⟨rfl, d4⟩
              have D4 : Hid (UDone b n w W3) := D3.out.trans d4
              clear d4
              go_wp2_with fail
              obtain ⟨v3, hv3⟩ : ∃ v : Nat, (y' : Int) - 1 - ((pv : Int) - (x' : Int)) = v := ⟨y' - 1 - (pv - x'), by omega⟩
              rw [hv3]
              have v31 : x' ≤ v3 := by omega
              have v32 : v3 < y' := by omega
              have v33 : v3 < n := by omega
              clear hv3
              obtain ⟨G, hG⟩ := D4.out.row.cells
              by_cases hx0 : 0 < x'
              · go_big_quiet (first | (go_at_call 54; refine Calls.quiet_of_same (less64 _ _ _)))
                have d6 := D4.out.drewN nq
                obtain ⟨W5, hW5⟩ : ∃ z : World, z = W3.drewN nq := ⟨_, rfl⟩
                rw [← hW5] at d6 ⊢
                have D6 : Hid _ := d6
                clear d6 hW5 hG
                go_wp2_with fail
                · refine (partEq64 b n cap x' y' v3 W5 D6.out.row (by omega) (by omega) (by omega) hn).mono ?_
                  rintro e W6 ⟨⟨m, rfl, m1, m2⟩, d7⟩
                  have D7 : Hid (UDone b n w W6) := D6.out.trans d7
                  clear d7
                  go_wp2_with fail
                  exact ⟨⟨m, y', l1, _, _, rfl, rfl, rfl, rfl, rfl, by omega, by omega, by omega, by omega, D7.out⟩, by simp [intOf] <;> omega⟩
                · refine (part64 b n cap x' y' v3 W5 D6.out.row (by omega) (by omega) (by omega) hn).mono ?_
                  rintro e W6 ⟨⟨m, r, rfl, m1, m2⟩, d7⟩
                  have D7 : Hid (UDone b n w W6) := D6.out.trans d7
                  clear d7
                  have HB7 : Hid (b < W6.heap.size) := Nat.lt_of_lt_of_le hb D7.out.upd.size
                  have m6 : m < 1000001 := by omega
                  go_wp2_with fail
                  · refine (IH.out x' m l1 W6 (by omega) (by omega) (by omega) (by omega) D7.out.row HB7.out).mono ?_
                    rintro e W7 ⟨rfl, d8⟩
                    have D8 : Hid (UDone b n w W7) := D7.out.trans d8
                    clear d8
                    go_wp2_with fail
                    exact ⟨⟨m + 1, y', l1, _, _, by go_num, rfl, rfl, rfl, rfl, by omega, by omega, by omega, by omega, D8.out⟩, by simp [intOf] <;> omega⟩
                  · rw [show (m : Int) + 1 = ((m + 1 : Nat) : Int) by omega]
                    refine (IH.out (m + 1) y' l1 W6 (by omega) (by omega) (by omega) (by omega) D7.out.row HB7.out).mono ?_
                    rintro e W7 ⟨rfl, d8⟩
                    have D8 : Hid (UDone b n w W7) := D7.out.trans d8
                    clear d8
                    go_wp2_with fail
                    exact ⟨⟨x', m, l1, _, _, rfl, rfl, rfl, rfl, rfl, by omega, by omega, by omega, by omega, D8.out⟩, by simp [intOf] <;> omega⟩
              · go_big_quiet (first | (go_at_call 54; refine Calls.quiet_of_same (less64 _ _ _)))
                have d6 := D4.out.drewN nq
                obtain ⟨W5, hW5⟩ : ∃ z : World, z = W3.drewN nq := ⟨_, rfl⟩
                rw [← hW5] at d6 ⊢
                have D6 : Hid _ := d6
                clear d6 hW5 hG
                go_wp2_with fail
                refine (part64 b n cap x' y' v3 W5 D6.out.row (by omega) (by omega) (by omega) hn).mono ?_
                rintro e W6 ⟨⟨m, r, rfl, m1, m2⟩, d7⟩
                have D7 : Hid (UDone b n w W6) := D6.out.trans d7
                clear d7
                have HB7 : Hid (b < W6.heap.size) := Nat.lt_of_lt_of_le hb D7.out.upd.size
                have m6 : m < 1000001 := by omega
                go_wp2_with fail
                · refine (IH.out x' m l1 W6 (by omega) (by omega) (by omega) (by omega) D7.out.row HB7.out).mono ?_
                  rintro e W7 ⟨rfl, d8⟩
                  have D8 : Hid (UDone b n w W7) := D7.out.trans d8
                  clear d8
                  go_wp2_with fail
                  exact ⟨⟨m + 1, y', l1, _, _, by go_num, rfl, rfl, rfl, rfl, by omega, by omega, by omega, by omega, D8.out⟩, by simp [intOf] <;> omega⟩
                · rw [show (m : Int) + 1 = ((m + 1 : Nat) : Int) by omega]
                  refine (IH.out (m + 1) y' l1 W6 (by omega) (by omega) (by omega) (by omega) D7.out.row HB7.out).mono ?_
                  rintro e W7 ⟨rfl, d8⟩
                  have D8 : Hid (UDone b n w W7) := D7.out.trans d8
                  clear d8
                  go_wp2_with fail
                  exact ⟨⟨x', m, l1, _, _, rfl, rfl, rfl, rfl, rfl, by omega, by omega, by omega, by omega, D8.out⟩, by simp [intOf] <;> omega⟩
            · clear b3
              go_wp2_with fail
              obtain ⟨G, hG⟩ := D3.out.row.cells
              by_cases hx0 : 0 < x'
              · go_big_quiet (first | (go_at_call 54; refine Calls.quiet_of_same (less64 _ _ _)))
                have d6 := D3.out.drewN nq
                obtain ⟨W5, hW5⟩ : ∃ z : World, z = W2.drewN nq := ⟨_, rfl⟩
                rw [← hW5] at d6 ⊢
                have D6 : Hid _ := d6
                clear d6 hW5 hG
                go_wp2_with fail
                · refine (partEq64 b n cap x' y' pv W5 D6.out.row (by omega) (by omega) (by omega) hn).mono ?_
                  rintro e W6 ⟨⟨m, rfl, m1, m2⟩, d7⟩
                  have D7 : Hid (UDone b n w W6) := D6.out.trans d7
                  clear d7
                  go_wp2_with fail
                  exact ⟨⟨m, y', l1, _, _, rfl, rfl, rfl, rfl, rfl, by omega, by omega, by omega, by omega, D7.out⟩, by simp [intOf] <;> omega⟩
                · refine (part64 b n cap x' y' pv W5 D6.out.row (by omega) (by omega) (by omega) hn).mono ?_
                  rintro e W6 ⟨⟨m, r, rfl, m1, m2⟩, d7⟩
                  have D7 : Hid (UDone b n w W6) := D6.out.trans d7
                  clear d7
                  have HB7 : Hid (b < W6.heap.size) := Nat.lt_of_lt_of_le hb D7.out.upd.size
                  have m6 : m < 1000001 := by omega
                  go_wp2_with fail
                  · refine (IH.out x' m l1 W6 (by omega) (by omega) (by omega) (by omega) D7.out.row HB7.out).mono ?_
                    rintro e W7 ⟨rfl, d8⟩
                    have D8 : Hid (UDone b n w W7) := D7.out.trans d8
                    clear d8
                    go_wp2_with fail
                    exact ⟨⟨m + 1, y', l1, _, _, by go_num, rfl, rfl, rfl, rfl, by omega, by omega, by omega, by omega, D8.out⟩, by simp [intOf] <;> omega⟩
                  · rw [show (m : Int) + 1 = ((m + 1 : Nat) : Int) by omega]
                    refine (IH.out (m + 1) y' l1 W6 (by omega) (by omega) (by omega) (by omega) D7.out.row HB7.out).mono ?_
                    rintro e W7 ⟨rfl, d8⟩
                    have D8 : Hid (UDone b n w W7) := D7.out.trans d8
                    clear d8
                    go_wp2_with fail
                    exact ⟨⟨x', m, l1, _, _, rfl, rfl, rfl, rfl, rfl, by omega, by omega, by omega, by omega, D8.out⟩, by simp [intOf] <;> omega⟩
              · go_big_quiet (first | (go_at_call 54; refine Calls.quiet_of_same (less64 _ _ _)))
                have d6 := D3.out.drewN nq
                obtain ⟨W5, hW5⟩ : ∃ z : World, z = W2.drewN nq := ⟨_, rfl⟩
                rw [← hW5] at d6 ⊢
                have D6 : Hid _ := d6
                clear d6 hW5 hG
                go_wp2_with fail
                refine (part64 b n cap x' y' pv W5 D6.out.row (by omega) (by omega) (by omega) hn).mono ?_
                rintro e W6 ⟨⟨m, r, rfl, m1, m2⟩, d7⟩
                have D7 : Hid (UDone b n w W6) := D6.out.trans d7
                clear d7
                have HB7 : Hid (b < W6.heap.size) := Nat.lt_of_lt_of_le hb D7.out.upd.size
                have m6 : m < 1000001 := by omega
                go_wp2_with fail
                · refine (IH.out x' m l1 W6 (by omega) (by omega) (by omega) (by omega) D7.out.row HB7.out).mono ?_
                  rintro e W7 ⟨rfl, d8⟩
                  have D8 : Hid (UDone b n w W7) := D7.out.trans d8
                  clear d8
                  go_wp2_with fail
                  exact ⟨⟨m + 1, y', l1, _, _, by go_num, rfl, rfl, rfl, rfl, by omega, by omega, by omega, by omega, D8.out⟩, by simp [intOf] <;> omega⟩
                · rw [show (m : Int) + 1 = ((m + 1 : Nat) : Int) by omega]
                  refine (IH.out (m + 1) y' l1 W6 (by omega) (by omega) (by omega) (by omega) D7.out.row HB7.out).mono ?_
                  rintro e W7 ⟨rfl, d8⟩
                  have D8 : Hid (UDone b n w W7) := D7.out.trans d8
                  clear d8
                  go_wp2_with fail
                  exact ⟨⟨x', m, l1, _, _, rfl, rfl, rfl, rfl, rfl, by omega, by omega, by omega, by omega, D8.out⟩, by simp [intOf] <;> omega⟩
          · obtain ⟨W1, hW1⟩ : ∃ z : World, z = wr := ⟨_, rfl⟩
            subst hW1
            have D2 : Hid (UDone b n w W1) := D1.out
            have HB2 : Hid (b < W1.heap.size) := HB1.out
            obtain ⟨l1, hl2⟩ : ∃ v : Nat, v = l' := ⟨_, rfl⟩
            subst hl2
            have hl3 : l1 < 1000 := by omega
            cases q
            · refine (pivot64 b n cap x' y' W1 D2.out.row HB2.out (by omega) (by omega) hn).mono ?_
              rintro e W2 ⟨⟨pv, hh, rfl, b1, b2, b3⟩, u2⟩
              have D3 : Hid (UDone b n w W2) := D2.out.upd0 u2
              clear u2
              have hpv6 : pv < 1000001 := by omega
              have hpvn : pv < n := by omega
              have hx0n : x' - 1 < n := by omega
              by_cases hh2 : hh = 2
              · subst hh2
                clear b3
                go_wp2_with fail
                refine (rev64 b n cap x' y' W2 D3.out.row (by omega) (by omega) hn).mono ?_
                rintro e W3 ⟨rfl, d4⟩
                have D4 : Hid (UDone b n w W3) := D3.out.trans d4
                clear d4
                go_wp2_with fail
                obtain ⟨v3, hv3⟩ : ∃ v : Nat, (y' : Int) - 1 - ((pv : Int) - (x' : Int)) = v := ⟨y' - 1 - (pv - x'), by omega⟩
                rw [hv3]
                have v31 : x' ≤ v3 := by omega
                have v32 : v3 < y' := by omega
                have v33 : v3 < n := by omega
                clear hv3
                obtain ⟨G, hG⟩ := D4.out.row.cells
                by_cases hx0 : 0 < x'
                · go_big_quiet (first | (go_at_call 54; refine Calls.quiet_of_same (less64 _ _ _)))
                  have d6 := D4.out.drewN nq
                  obtain ⟨W5, hW5⟩ : ∃ z : World, z = W3.drewN nq := ⟨_, rfl⟩
                  rw [← hW5] at d6 ⊢
                  have D6 : Hid _ := d6
                  clear d6 hW5 hG
                  go_wp2_with fail
                  · refine (partEq64 b n cap x' y' v3 W5 D6.out.row (by omega) (by omega) (by omega) hn).mono ?_
                    rintro e W6 ⟨⟨m, rfl, m1, m2⟩, d7⟩
                    have D7 : Hid (UDone b n w W6) := D6.out.trans d7
                    clear d7
                    go_wp2_with fail
                    exact ⟨⟨m, y', l1, _, _, rfl, rfl, rfl, rfl, rfl, by omega, by omega, by omega, by omega, D7.out⟩, by simp [intOf] <;> omega⟩
                  · refine (part64 b n cap x' y' v3 W5 D6.out.row (by omega) (by omega) (by omega) hn).mono ?_
                    rintro e W6 ⟨⟨m, r, rfl, m1, m2⟩, d7⟩
                    have D7 : Hid (UDone b n w W6) := D6.out.trans d7
                    clear d7
                    have HB7 : Hid (b < W6.heap.size) := Nat.lt_of_lt_of_le hb D7.out.upd.size
                    have m6 : m < 1000001 := by omega
                    go_wp2_with fail
                    · refine (IH.out x' m l1 W6 (by omega) (by omega) (by omega) (by omega) D7.out.row HB7.out).mono ?_
                      rintro e W7 ⟨rfl, d8⟩
                      have D8 : Hid (UDone b n w W7) := D7.out.trans d8
                      clear d8
                      go_wp2_with fail
                      exact ⟨⟨m + 1, y', l1, _, _, by go_num, rfl, rfl, rfl, rfl, by omega, by omega, by omega, by omega, D8.out⟩, by simp [intOf] <;> omega⟩
                    · rw [show (m : Int) + 1 = ((m + 1 : Nat) : Int) by omega]
                      refine (IH.out (m + 1) y' l1 W6 (by omega) (by omega) (by omega) (by omega) D7.out.row HB7.out).mono ?_
                      rintro e W7 ⟨rfl, d8⟩
                      have D8 : Hid (UDone b n w W7) := D7.out.trans d8
                      clear d8
                      go_wp2_with fail
                      exact ⟨⟨x', m, l1, _, _, rfl, rfl, rfl, rfl, rfl, by omega, by omega, by omega, by omega, D8.out⟩, by simp [intOf] <;> omega⟩
                · go_big_quiet (first | (go_at_call 54; refine Calls.quiet_of_same (less64 _ _ _)))
                  have d6 := D4.out.drewN nq
                  obtain ⟨W5, hW5⟩ : ∃ z : World, z = W3.drewN nq := ⟨_, rfl⟩
                  rw [← hW5] at d6 ⊢
                  have D6 : Hid _ := d6
                  clear d6 hW5 hG
                  go_wp2_with fail
                  refine (part64 b n cap x' y' v3 W5 D6.out.row (by omega) (by omega) (by omega) hn).mono ?_
                  rintro e W6 ⟨⟨m, r, rfl, m1, m2⟩, d7⟩
                  have D7 : Hid (UDone b n w W6) := D6.out.trans d7
                  clear d7
                  have HB7 : Hid (b < W6.heap.size) := Nat.lt_of_lt_of_le hb D7.out.upd.size
                  have m6 : m < 1000001 := by omega
                  go_wp2_with fail
                  · refine (IH.out x' m l1 W6 (by omega) (by omega) (by omega) (by omega) D7.out.row HB7.out).mono ?_
                    rintro e W7 ⟨rfl, d8⟩
                    have D8 : Hid (UDone b n w W7) := D7.out.trans d8
                    clear d8
                    go_wp2_with fail
                    exact ⟨⟨m + 1, y', l1, _, _, by go_num, rfl, rfl, rfl, rfl, by omega, by omega, by omega, by omega, D8.out⟩, by simp [intOf] <;> omega⟩
                  · rw [show (m : Int) + 1 = ((m + 1 : Nat) : Int) by omega]
                    refine (IH.out (m + 1) y' l1 W6 (by omega) (by omega) (by omega) (by omega) D7.out.row HB7.out).mono ?_
                    rintro e W7 ⟨rfl, d8⟩
                    have D8 : Hid (UDone b n w W7) := D7.out.trans d8
                    clear d8
                    go_wp2_with fail
                    exact ⟨⟨x', m, l1, _, _, rfl, rfl, rfl, rfl, rfl, by omega, by omega, by omega, by omega, D8.out⟩, by simp [intOf] <;> omega⟩
              · clear b3
                go_wp2_with fail
                obtain ⟨G, hG⟩ := D3.out.row.cells
                by_cases hx0 : 0 < x'
                · go_big_quiet (first | (go_at_call 54; refine Calls.quiet_of_same (less64 _ _ _)))
                  have d6 := D3.out.drewN nq
                  obtain ⟨W5, hW5⟩ : ∃ z : World, z = W2.drewN nq := ⟨_, rfl⟩
                  rw [← hW5] at d6 ⊢
                  have D6 : Hid _ := d6
                  clear d6 hW5 hG
                  go_wp2_with fail
                  · refine (partEq64 b n cap x' y' pv W5 D6.out.row (by omega) (by omega) (by omega) hn).mono ?_
                    rintro e W6 ⟨⟨m, rfl, m1, m2⟩, d7⟩
                    have D7 : Hid (UDone b n w W6) := D6.out.trans d7
                    clear d7
                    go_wp2_with fail
                    exact ⟨⟨m, y', l1, _, _, rfl, rfl, rfl, rfl, rfl, by omega, by omega, by omega, by omega, D7.out⟩, by simp [intOf] <;> omega⟩
                  · refine (part64 b n cap x' y' pv W5 D6.out.row (by omega) (by omega) (by omega) hn).mono ?_
                    rintro e W6 ⟨⟨m, r, rfl, m1, m2⟩, d7⟩
                    have D7 : Hid (UDone b n w W6) := D6.out.trans d7
                    clear d7
                    have HB7 : Hid (b < W6.heap.size) := Nat.lt_of_lt_of_le hb D7.out.upd.size
                    have m6 : m < 1000001 := by omega
                    go_wp2_with fail
                    · refine (IH.out x' m l1 W6 (by omega) (by omega) (by omega) (by omega) D7.out.row HB7.out).mono ?_
                      rintro e W7 ⟨rfl, d8⟩
                      have D8 : Hid (UDone b n w W7) := D7.out.trans d8
                      clear d8
                      go_wp2_with fail
                      exact ⟨⟨m + 1, y', l1, _, _, by go_num, rfl, rfl, rfl, rfl, by omega, by omega, by omega, by omega, D8.out⟩, by simp [intOf] <;> omega⟩
                    · rw [show (m : Int) + 1 = ((m + 1 : Nat) : Int) by omega]
                      refine (IH.out (m + 1) y' l1 W6 (by omega) (by omega) (by omega) (by omega) D7.out.row HB7.out).mono ?_
                      rintro e W7 ⟨rfl, d8⟩
                      have D8 : Hid (UDone b n w W7) := D7.out.trans d8
                      clear d8
                      go_wp2_with fail
                      exact ⟨⟨x', m, l1, _, _, rfl, rfl, rfl, rfl, rfl, by omega, by omega, by omega, by omega, D8.out⟩, by simp [intOf] <;> omega⟩
                · go_big_quiet (first | (go_at_call 54; refine Calls.quiet_of_same (less64 _ _ _)))
                  have d6 := D3.out.drewN nq
                  obtain ⟨W5, hW5⟩ : ∃ z : World, z = W2.drewN nq := ⟨_, rfl⟩
                  rw [← hW5] at d6 ⊢
                  have D6 : Hid _ := d6
                  clear d6 hW5 hG
                  go_wp2_with fail
                  refine (part64 b n cap x' y' pv W5 D6.out.row (by omega) (by omega) (by omega) hn).mono ?_
                  rintro e W6 ⟨⟨m, r, rfl, m1, m2⟩, d7⟩
                  have D7 : Hid (UDone b n w W6) := D6.out.trans d7
                  clear d7
                  have HB7 : Hid (b < W6.heap.size) := Nat.lt_of_lt_of_le hb D7.out.upd.size
                  have m6 : m < 1000001 := by omega
                  go_wp2_with fail
                  · refine (IH.out x' m l1 W6 (by omega) (by omega) (by omega) (by omega) D7.out.row HB7.out).mono ?_
                    rintro e W7 ⟨rfl, d8⟩
                    have D8 : Hid (UDone b n w W7) := D7.out.trans d8
                    clear d8
                    go_wp2_with fail
                    exact ⟨⟨m + 1, y', l1, _, _, by go_num, rfl, rfl, rfl, rfl, by omega, by omega, by omega, by omega, D8.out⟩, by simp [intOf] <;> omega⟩
                  · rw [show (m : Int) + 1 = ((m + 1 : Nat) : Int) by omega]
                    refine (IH.out (m + 1) y' l1 W6 (by omega) (by omega) (by omega) (by omega) D7.out.row HB7.out).mono ?_
                    rintro e W7 ⟨rfl, d8⟩
                    have D8 : Hid (UDone b n w W7) := D7.out.trans d8
                    clear d8
                    go_wp2_with fail
                    exact ⟨⟨x', m, l1, _, _, rfl, rfl, rfl, rfl, rfl, by omega, by omega, by omega, by omega, D8.out⟩, by simp [intOf] <;> omega⟩
            · refine (pivot64 b n cap x' y' W1 D2.out.row HB2.out (by omega) (by omega) hn).mono ?_
              rintro e W2 ⟨⟨pv, hh, rfl, b1, b2, b3⟩, u2⟩
              have D3 : Hid (UDone b n w W2) := D2.out.upd0 u2
              clear u2
              have hpv6 : pv < 1000001 := by omega
              have hpvn : pv < n := by omega
              have hx0n : x' - 1 < n := by omega
              rcases b3 with rfl | rfl | rfl
              · go_wp2_with fail
                obtain ⟨G, hG⟩ := D3.out.row.cells
                by_cases hx0 : 0 < x'
                · go_big_quiet (first | (go_at_call 54; refine Calls.quiet_of_same (less64 _ _ _)))
                  have d6 := D3.out.drewN nq
                  obtain ⟨W5, hW5⟩ : ∃ z : World, z = W2.drewN nq := ⟨_, rfl⟩
                  rw [← hW5] at d6 ⊢
                  have D6 : Hid _ := d6
                  clear d6 hW5 hG
                  go_wp2_with fail
                  · refine (partEq64 b n cap x' y' pv W5 D6.out.row (by omega) (by omega) (by omega) hn).mono ?_
                    rintro e W6 ⟨⟨m, rfl, m1, m2⟩, d7⟩
                    have D7 : Hid (UDone b n w W6) := D6.out.trans d7
                    clear d7
                    go_wp2_with fail
                    exact ⟨⟨m, y', l1, _, _, rfl, rfl, rfl, rfl, rfl, by omega, by omega, by omega, by omega, D7.out⟩, by simp [intOf] <;> omega⟩
                  · refine (part64 b n cap x' y' pv W5 D6.out.row (by omega) (by omega) (by omega) hn).mono ?_
                    rintro e W6 ⟨⟨m, r, rfl, m1, m2⟩, d7⟩
                    have D7 : Hid (UDone b n w W6) := D6.out.trans d7
                    clear d7
                    have HB7 : Hid (b < W6.heap.size) := Nat.lt_of_lt_of_le hb D7.out.upd.size
                    have m6 : m < 1000001 := by omega
                    go_wp2_with fail
                    · refine (IH.out x' m l1 W6 (by omega) (by omega) (by omega) (by omega) D7.out.row HB7.out).mono ?_
                      rintro e W7 ⟨rfl, d8⟩
                      have D8 : Hid (UDone b n w W7) := D7.out.trans d8
                      clear d8
                      go_wp2_with fail
                      exact ⟨⟨m + 1, y', l1, _, _, by go_num, rfl, rfl, rfl, rfl, by omega, by omega, by omega, by omega, D8.out⟩, by simp [intOf] <;> omega⟩
                    · rw [show (m : Int) + 1 = ((m + 1 : Nat) : Int) by omega]
                      refine (IH.out (m + 1) y' l1 W6 (by omega) (by omega) (by omega) (by omega) D7.out.row HB7.out).mono ?_
                      rintro e W7 ⟨rfl, d8⟩
                      have D8 : Hid (UDone b n w W7) := D7.out.trans d8
                      clear d8
                      go_wp2_with fail
                      exact ⟨⟨x', m, l1, _, _, rfl, rfl, rfl, rfl, rfl, by omega, by omega, by omega, by omega, D8.out⟩, by simp [intOf] <;> omega⟩
                · go_big_quiet (first | (go_at_call 54; refine Calls.quiet_of_same (less64 _ _ _)))
                  have d6 := D3.out.drewN nq
                  obtain ⟨W5, hW5⟩ : ∃ z : World, z = W2.drewN nq := ⟨_, rfl⟩
                  rw [← hW5] at d6 ⊢
                  have D6 : Hid _ := d6
                  clear d6 hW5 hG
                  go_wp2_with fail
                  refine (part64 b n cap x' y' pv W5 D6.out.row (by omega) (by omega) (by omega) hn).mono ?_
                  rintro e W6 ⟨⟨m, r, rfl, m1, m2⟩, d7⟩
                  have D7 : Hid (UDone b n w W6) := D6.out.trans d7
                  clear d7
                  have HB7 : Hid (b < W6.heap.size) := Nat.lt_of_lt_of_le hb D7.out.upd.size
                  have m6 : m < 1000001 := by omega
                  go_wp2_with fail
                  · refine (IH.out x' m l1 W6 (by omega) (by omega) (by omega) (by omega) D7.out.row HB7.out).mono ?_
                    rintro e W7 ⟨rfl, d8⟩
                    have D8 : Hid (UDone b n w W7) := D7.out.trans d8
                    clear d8
                    go_wp2_with fail
                    exact ⟨⟨m + 1, y', l1, _, _, by go_num, rfl, rfl, rfl, rfl, by omega, by omega, by omega, by omega, D8.out⟩, by simp [intOf] <;> omega⟩
                  · rw [show (m : Int) + 1 = ((m + 1 : Nat) : Int) by omega]
                    refine (IH.out (m + 1) y' l1 W6 (by omega) (by omega) (by omega) (by omega) D7.out.row HB7.out).mono ?_
                    rintro e W7 ⟨rfl, d8⟩
                    have D8 : Hid (UDone b n w W7) := D7.out.trans d8
                    clear d8
                    go_wp2_with fail
                    exact ⟨⟨x', m, l1, _, _, rfl, rfl, rfl, rfl, rfl, by omega, by omega, by omega, by omega, D8.out⟩, by simp [intOf] <;> omega⟩
              · go_wp2_with fail
                refine (pins64 b n cap x' y' W2 D3.out.row (by omega) (by omega) hn).mono ?_
                rintro e W4 ⟨⟨r, rfl⟩, d5⟩
                have D5 : Hid (UDone b n w W4) := D3.out.trans d5
                clear d5
                cases r
                rotate_left
                · go_wp2_with fail
                  refine bodyPost_ret (results_none rfl _ _ _) rfl ?_
                  exact ⟨rfl, D5.out⟩
                go_wp2_with fail
                obtain ⟨G, hG⟩ := D5.out.row.cells
                by_cases hx0 : 0 < x'
                · go_big_quiet (first | (go_at_call 54; refine Calls.quiet_of_same (less64 _ _ _)))
                  have d6 := D5.out.drewN nq
                  obtain ⟨W5, hW5⟩ : ∃ z : World, z = W4.drewN nq := ⟨_, rfl⟩
                  rw [← hW5] at d6 ⊢
                  have D6 : Hid _ := d6
                  clear d6 hW5 hG
                  go_wp2_with fail
                  · refine (partEq64 b n cap x' y' pv W5 D6.out.row (by omega) (by omega) (by omega) hn).mono ?_
                    rintro e W6 ⟨⟨m, rfl, m1, m2⟩, d7⟩
                    have D7 : Hid (UDone b n w W6) := D6.out.trans d7
                    clear d7
                    go_wp2_with fail
                    exact ⟨⟨m, y', l1, _, _, rfl, rfl, rfl, rfl, rfl, by omega, by omega, by omega, by omega, D7.out⟩, by simp [intOf] <;> omega⟩
                  · refine (part64 b n cap x' y' pv W5 D6.out.row (by omega) (by omega) (by omega) hn).mono ?_
                    rintro e W6 ⟨⟨m, r, rfl, m1, m2⟩, d7⟩
                    have D7 : Hid (UDone b n w W6) := D6.out.trans d7
                    clear d7
                    have HB7 : Hid (b < W6.heap.size) := Nat.lt_of_lt_of_le hb D7.out.upd.size
                    have m6 : m < 1000001 := by omega
                    go_wp2_with fail
                    · refine (IH.out x' m l1 W6 (by omega) (by omega) (by omega) (by omega) D7.out.row HB7.out).mono ?_
                      rintro e W7 ⟨rfl, d8⟩
                      have D8 : Hid (UDone b n w W7) := D7.out.trans d8
                      clear d8
                      go_wp2_with fail
                      exact ⟨⟨m + 1, y', l1, _, _, by go_num, rfl, rfl, rfl, rfl, by omega, by omega, by omega, by omega, D8.out⟩, by simp [intOf] <;> omega⟩
                    · rw [show (m : Int) + 1 = ((m + 1 : Nat) : Int) by omega]
                      refine (IH.out (m + 1) y' l1 W6 (by omega) (by omega) (by omega) (by omega) D7.out.row HB7.out).mono ?_
                      rintro e W7 ⟨rfl, d8⟩
                      have D8 : Hid (UDone b n w W7) := D7.out.trans d8
                      clear d8
                      go_wp2_with fail
                      exact ⟨⟨x', m, l1, _, _, rfl, rfl, rfl, rfl, rfl, by omega, by omega, by omega, by omega, D8.out⟩, by simp [intOf] <;> omega⟩
                · go_big_quiet (first | (go_at_call 54; refine Calls.quiet_of_same (less64 _ _ _)))
                  have d6 := D5.out.drewN nq
                  obtain ⟨W5, hW5⟩ : ∃ z : World, z = W4.drewN nq := ⟨_, rfl⟩
                  rw [← hW5] at d6 ⊢
                  have D6 : Hid _ := d6
                  clear d6 hW5 hG
                  go_wp2_with fail
                  refine (part64 b n cap x' y' pv W5 D6.out.row (by omega) (by omega) (by omega) hn).mono ?_
                  rintro e W6 ⟨⟨m, r, rfl, m1, m2⟩, d7⟩
                  have D7 : Hid (UDone b n w W6) := D6.out.trans d7
                  clear d7
                  have HB7 : Hid (b < W6.heap.size) := Nat.lt_of_lt_of_le hb D7.out.upd.size
                  have m6 : m < 1000001 := by omega
                  go_wp2_with fail
                  · refine (IH.out x' m l1 W6 (by omega) (by omega) (by omega) (by omega) D7.out.row HB7.out).mono ?_
                    rintro e W7 ⟨rfl, d8⟩
                    have D8 : Hid (UDone b n w W7) := D7.out.trans d8
                    clear d8
                    go_wp2_with fail
                    exact ⟨⟨m + 1, y', l1, _, _, by go_num, rfl, rfl, rfl, rfl, by omega, by omega, by omega, by omega, D8.out⟩, by simp [intOf] <;> omega⟩
                  · rw [show (m : Int) + 1 = ((m + 1 : Nat) : Int) by omega]
                    refine (IH.out (m + 1) y' l1 W6 (by omega) (by omega) (by omega) (by omega) D7.out.row HB7.out).mono ?_
                    rintro e W7 ⟨rfl, d8⟩
                    have D8 : Hid (UDone b n w W7) := D7.out.trans d8
                    clear d8
                    go_wp2_with fail
                    exact ⟨⟨x', m, l1, _, _, rfl, rfl, rfl, rfl, rfl, by omega, by omega, by omega, by omega, D8.out⟩, by simp [intOf] <;> omega⟩
              · go_wp2_with fail
                refine (rev64 b n cap x' y' W2 D3.out.row (by omega) (by omega) hn).mono ?_
                rintro e W3 ⟨rfl, d4⟩
                have D4 : Hid (UDone b n w W3) := D3.out.trans d4
                clear d4
                go_wp2_with fail
                obtain ⟨v3, hv3⟩ : ∃ v : Nat, (y' : Int) - 1 - ((pv : Int) - (x' : Int)) = v := ⟨y' - 1 - (pv - x'), by omega⟩
                rw [hv3]
                have v31 : x' ≤ v3 := by omega
                have v32 : v3 < y' := by omega
                have v33 : v3 < n := by omega
                clear hv3
                refine (pins64 b n cap x' y' W3 D4.out.row (by omega) (by omega) hn).mono ?_
                rintro e W4 ⟨⟨r, rfl⟩, d5⟩
                have D5 : Hid (UDone b n w W4) := D4.out.trans d5
                clear d5
                cases r
                rotate_left
                · go_wp2_with fail
                  refine bodyPost_ret (results_none rfl _ _ _) rfl ?_
                  exact ⟨rfl, D5.out⟩
                go_wp2_with fail
                obtain ⟨G, hG⟩ := D5.out.row.cells
                by_cases hx0 : 0 < x'
                · go_big_quiet (first | (go_at_call 54; refine Calls.quiet_of_same (less64 _ _ _)))
                  have d6 := D5.out.drewN nq
                  obtain ⟨W5, hW5⟩ : ∃ z : World, z = W4.drewN nq := ⟨_, rfl⟩
                  rw [← hW5] at d6 ⊢
                  have D6 : Hid _ := d6
                  clear d6 hW5 hG
                  go_wp2_with fail
                  · refine (partEq64 b n cap x' y' v3 W5 D6.out.row (by omega) (by omega) (by omega) hn).mono ?_
                    rintro e W6 ⟨⟨m, rfl, m1, m2⟩, d7⟩
                    have D7 : Hid (UDone b n w W6) := D6.out.trans d7
                    clear d7
                    go_wp2_with fail
                    exact ⟨⟨m, y', l1, _, _, rfl, rfl, rfl, rfl, rfl, by omega, by omega, by omega, by omega, D7.out⟩, by simp [intOf] <;> omega⟩
                  · refine (part64 b n cap x' y' v3 W5 D6.out.row (by omega) (by omega) (by omega) hn).mono ?_
                    rintro e W6 ⟨⟨m, r, rfl, m1, m2⟩, d7⟩
                    have D7 : Hid (UDone b n w W6) := D6.out.trans d7
                    clear d7
                    have HB7 : Hid (b < W6.heap.size) := Nat.lt_of_lt_of_le hb D7.out.upd.size
                    have m6 : m < 1000001 := by omega
                    go_wp2_with fail
                    · refine (IH.out x' m l1 W6 (by omega) (by omega) (by omega) (by omega) D7.out.row HB7.out).mono ?_
                      rintro e W7 ⟨rfl, d8⟩
                      have D8 : Hid (UDone b n w W7) := D7.out.trans d8
                      clear d8
                      go_wp2_with fail
                      exact ⟨⟨m + 1, y', l1, _, _, by go_num, rfl, rfl, rfl, rfl, by omega, by omega, by omega, by omega, D8.out⟩, by simp [intOf] <;> omega⟩
                    · rw [show (m : Int) + 1 = ((m + 1 : Nat) : Int) by omega]
                      refine (IH.out (m + 1) y' l1 W6 (by omega) (by omega) (by omega) (by omega) D7.out.row HB7.out).mono ?_
                      rintro e W7 ⟨rfl, d8⟩
                      have D8 : Hid (UDone b n w W7) := D7.out.trans d8
                      clear d8
                      go_wp2_with fail
                      exact ⟨⟨x', m, l1, _, _, rfl, rfl, rfl, rfl, rfl, by omega, by omega, by omega, by omega, D8.out⟩, by simp [intOf] <;> omega⟩
                · go_big_quiet (first | (go_at_call 54; refine Calls.quiet_of_same (less64 _ _ _)))
                  have d6 := D5.out.drewN nq
                  obtain ⟨W5, hW5⟩ : ∃ z : World, z = W4.drewN nq := ⟨_, rfl⟩
                  rw [← hW5] at d6 ⊢
                  have D6 : Hid _ := d6
                  clear d6 hW5 hG
                  go_wp2_with fail
                  refine (part64 b n cap x' y' v3 W5 D6.out.row (by omega) (by omega) (by omega) hn).mono ?_
                  rintro e W6 ⟨⟨m, r, rfl, m1, m2⟩, d7⟩
                  have D7 : Hid (UDone b n w W6) := D6.out.trans d7
                  clear d7
                  have HB7 : Hid (b < W6.heap.size) := Nat.lt_of_lt_of_le hb D7.out.upd.size
                  have m6 : m < 1000001 := by omega
                  go_wp2_with fail
                  · refine (IH.out x' m l1 W6 (by omega) (by omega) (by omega) (by omega) D7.out.row HB7.out).mono ?_
                    rintro e W7 ⟨rfl, d8⟩
                    have D8 : Hid (UDone b n w W7) := D7.out.trans d8
                    clear d8
                    go_wp2_with fail
                    exact ⟨⟨m + 1, y', l1, _, _, by go_num, rfl, rfl, rfl, rfl, by omega, by omega, by omega, by omega, D8.out⟩, by simp [intOf] <;> omega⟩
                  · rw [show (m : Int) + 1 = ((m + 1 : Nat) : Int) by omega]
                    refine (IH.out (m + 1) y' l1 W6 (by omega) (by omega) (by omega) (by omega) D7.out.row HB7.out).mono ?_
                    rintro e W7 ⟨rfl, d8⟩
                    have D8 : Hid (UDone b n w W7) := D7.out.trans d8
                    clear d8
                    go_wp2_with fail
                    exact ⟨⟨x', m, l1, _, _, rfl, rfl, rfl, rfl, rfl, by omega, by omega, by omega, by omega, D8.out⟩, by simp [intOf] <;> omega⟩
end Go.Proofs.YbulkctquGreatFmt

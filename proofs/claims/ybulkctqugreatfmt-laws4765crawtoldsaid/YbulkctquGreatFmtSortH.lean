/-
  slices.Sort at []uint64, and slices.BinarySearch there.
-/
import Derived.Test.YbulkctquGreatFmtSortG
import Derived.Sort.WalkA14
namespace Go.Proofs.YbulkctquGreatFmt
open Go.ChangeShapes Go.WideShapes Go.ChangeAt Go.RowKit Go.Ord
set_option linter.unusedVariables false
shelf_lay Lays.n125 Nm 125 at Ybaz as Ybaz.lays125

theorem len64 (n : Nat) (hn : n < 1000000) (w : World) : Calls Ybaz.prog 53 #[.int .u64 (n : Int)] w fun e w' => ∃ l : Nat, l < 1000 ∧ e = .returned (.int .i64 (l : Int)) ∧ w' = w := by
  refine Calls.mono (Any.bits_Len Ybaz.lays125 (n : Int) w (by omega) (by omega)) ?_
  rintro e w' ⟨rfl, rfl⟩
  refine ⟨Lib.bitLen n, ?_, by simp, rfl⟩
  rw [bitLen_eq n (by omega)]
  have := (Sort.bitsLen_le_iff n 64).2 (by omega)
  omega

theorem ins0 (w : World) : Calls Ybaz.prog 83 #[.slice none 0 0, .int .i64 0, .int .i64 0] w fun e w' => e = .returned (.tuple #[]) ∧ w' = w := by
  go_enter Ybaz.func83, Ybaz.ntmps83
  go_wp2_with fail
  refine wp_loop_once ?_
  go_wp2_with fail
  go_end0
  exact ⟨rfl, rfl⟩
theorem pdq0 (l : Nat) (w : World) : Calls Ybaz.prog 52 #[.slice none 0 0, .int .i64 0, .int .i64 0, .int .i64 l] w fun e w' => e = .returned (.tuple #[]) ∧ w' = w := by
  go_enter Ybaz.func52, Ybaz.ntmps52
  go_wp2_with fail
  refine wp_loop_once ?_
  go_wp2_with fail
  refine (ins0 w).mono ?_
  rintro e w1 ⟨rfl, rfl⟩
  go_wp2_with fail
  refine bodyPost_ret (results_none rfl _ _ _) rfl ?_
  exact ⟨rfl, rfl⟩
theorem sort0 (w : World) : Calls Ybaz.prog 28 #[.slice none 0 0] w fun e w' => e = .returned (.tuple #[]) ∧ w' = w := by
  go_enter Ybaz.func28, Ybaz.ntmps28
  go_wp2_with fail
  refine Calls.mono (len64 0 (by omega) w) ?_
  rintro e w1 ⟨l, _, rfl, rfl⟩
  go_wp2_with fail
  refine (pdq0 l _).mono ?_
  rintro e w1 ⟨rfl, rfl⟩
  go_wp2_with fail
  go_end0
  exact ⟨rfl, rfl⟩
theorem sort64 (b n cap : Nat) (hn : n < 1000000) (w : World) (hr : URow w b n) (hb : b < w.heap.size) : Calls Ybaz.prog 28 #[.slice (some ⟨b, 0, none⟩) n cap] w fun e w' => e = .returned (.tuple #[]) ∧ UDone b n w w' := by
  have HR : Hid _ := hr
  clear hr
  go_enter Ybaz.func28, Ybaz.ntmps28
  go_wp2_with fail
  refine Calls.mono (len64 n hn w) ?_
  rintro e w1 ⟨l, hl, rfl, rfl⟩
  go_wp2_with fail
  refine Calls.mono (pdq64 b n cap hn (n + 1) 0 n l w1 (by omega) (by omega) (by omega) hl HR.out hb) ?_
  rintro e w1 ⟨rfl, d⟩
  have D : Hid _ := d
  clear d
  go_wp2_with fail
  go_end0
  exact ⟨rfl, D.out⟩

theorem nan64' (x : Int) (w : World) : Calls Ybaz.prog 55 #[.int .u64 x] w fun e w' => e = .returned (.bool false) ∧ w' = w := by
  go_enter Ybaz.func55, Ybaz.ntmps55
  go_wp2_with fail
  go_ret
  exact ⟨by simp, rfl⟩

set_option maxHeartbeats 4000000 in
set_option maxRecDepth 100000 in
theorem search64 (a : Option Addr) (n cap : Nat) (x : Int) (hn : n < 1000000) (w : World) (hr : 0 < n → ∃ b, a = some ⟨b, 0, none⟩ ∧ URow w b n) :
    Calls Ybaz.prog 30 #[.slice a n cap, .int .u64 x] w fun e w' => ∃ (r : Nat) (q : Bool), r ≤ n ∧ e = .returned (.tuple #[.int .i64 (r : Int), .bool q]) ∧ ∃ m, w' = w.drewN m := by
  have HR : Hid _ := hr
  clear hr
  go_enter Ybaz.func30, Ybaz.ntmps30
  go_wp2_with fail
  go_loopw [7, 8] (fun t7 t8 wr => ∃ i j m : Nat, t7 = .int .i64 i ∧ t8 = .int .i64 j ∧ i ≤ j ∧ j ≤ n ∧ wr = w.drewN m) (fun u v _ => (intOf v - intOf u).toNat)
  case atStart => exact ⟨0, n, 0, rfl, rfl, by omega, by omega, rfl⟩
  case round =>
    obtain ⟨i, j, m, rfl, rfl, h1, h2, rfl⟩ := hrel
    have hi6 : i < 1000001 := by omega
    have hj6 : j < 1000001 := by omega
    by_cases hlt : i < j
    · obtain ⟨b, rfl, h3⟩ := HR.out (by omega)
      obtain ⟨G, hG⟩ := h3.cells
      have hm1 : (i + j) / 2 < n := by omega
      have hm2 := hG ((i + j) / 2) hm1
      clear h3 hG
      have hm3 : (w.drewN m).cell? ⟨b, (i + j) / 2, none⟩ = some (.int .u64 (G ((i + j) / 2))) := hm2
      generalize G ((i + j) / 2) = g at hm2 hm3
      go_wp2_with fail
      refine (less64 _ _ _).mono ?_
      rintro e w1 ⟨rfl, rfl⟩
      go_wp2_with fail
      · exact ⟨⟨(i + j) / 2 + 1, j, m, by go_num, rfl, by omega, by omega, rfl⟩, by simp [intOf] <;> omega⟩
      · exact ⟨⟨i, (i + j) / 2, m, rfl, by go_num, by omega, by omega, rfl⟩, by simp [intOf] <;> omega⟩
    · by_cases hin : i < n
      · obtain ⟨b, rfl, h3⟩ := HR.out (by omega)
        obtain ⟨G, hG⟩ := h3.cells
        clear h3
        go_wp2_with fail
        · go_ret2
          exact ⟨i, _, by omega, rfl, m, rfl⟩
        · refine (nan64' _ _).mono ?_
          rintro e w1 ⟨rfl, rfl⟩
          go_wp2_with fail
          go_ret2
          exact ⟨i, _, by omega, rfl, m, rfl⟩
      · go_wp2_with fail
        go_ret2
        exact ⟨i, _, by omega, rfl, m, rfl⟩

/-- The rank of a version: the closure of newSessionPolygraph. -/
theorem rank29 (bx : Nat) (a : Option Addr) (n cap : Nat) (x : Int) (hn : n < 1000000) (w : World) (hc : w.cell? ⟨bx, 0, none⟩ = some (.slice a n cap)) (hr : 0 < n → ∃ b, a = some ⟨b, 0, none⟩ ∧ URow w b n) :
    Calls Ybaz.prog 29 #[.int .u64 x, .pointer (some ⟨bx, 0, none⟩)] w fun e w' => ∃ r : Nat, r ≤ n ∧ e = .returned (.int .i64 (r : Int)) ∧ ∃ m, w' = w.drewN m := by
  have HR : Hid _ := hr
  clear hr
  go_enter Ybaz.func29, Ybaz.ntmps29
  go_wp2_with fail
  refine (search64 a n cap x hn w HR.out).mono ?_
  rintro e w1 ⟨r, q, h1, rfl, m, rfl⟩
  go_wp2_with fail
  go_ret
  exact ⟨r, h1, rfl, m, rfl⟩
end Go.Proofs.YbulkctquGreatFmt

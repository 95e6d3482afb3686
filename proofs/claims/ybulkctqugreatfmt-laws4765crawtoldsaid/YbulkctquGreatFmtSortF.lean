/-
  slices.Sort at []uint64: breakPatternsOrdered.
-/
import Derived.Test.YbulkctquGreatFmtSortD
import Derived.Shelf.Lay
import Derived.Shelf.SlSortCmp.Xorshift
import Derived.Sort.LotD1
import Derived.Sort.LotD5
import Derived.Laws.BitsAllLaws
namespace Go.Proofs.YbulkctquGreatFmt
open Go.ChangeShapes Go.WideShapes Go.ChangeAt Go.RowKit Go.Ord
set_option linter.unusedVariables false

shelf_lay SlLaysF0.n47 Slsf 47 at Ybaz as Ybaz.laysP2
shelf_lay SlLaysF0.n48 Slsf 48 at Ybaz as Ybaz.laysXs

theorem pow64 (n : Nat) (hn : n < 1000000) (w : World) : Calls Ybaz.prog 105 #[.int .i64 n] w fun e w' => e = .returned (.int .u64 ((1 <<< Sort.bitsLen n : Nat) : Int)) ∧ w' = w :=
  AnyF.nextPowerOfTwo Ybaz.laysP2 n (by omega) w
theorem next64 (rb X : Nat) (hX : X < 18446744073709551616) (w : World) (hc : w.cell? ⟨rb, 0, none⟩ = some (.int .u64 X)) (hf : w.frozen? ⟨rb, 0, none⟩ = false) :
    Calls Ybaz.prog 106 #[.pointer (some ⟨rb, 0, none⟩)] w fun e w' => ∃ z : Nat, z < 18446744073709551616 ∧ e = .returned (.int .u64 (z : Int)) ∧ w' = (w.setCell ⟨rb, 0, none⟩ (.int .u64 z)).drewN 3 :=
  (AnyF.xorshift_Next Ybaz.laysXs rb 0 X hX w hc hf).mono (fun e w' h => ⟨Sort.xorNextN X, Sort.xorNextN_lt X hX, h.1, h.2⟩)

set_option maxHeartbeats 8000000 in
set_option maxRecDepth 100000 in
theorem break64 (b n cap x y : Nat) (w : World) (hr : URow w b n) (hb : b < w.heap.size) (hxy : x + 12 < y) (hy : y ≤ n) (hn : n < 1000000) :
    Calls Ybaz.prog 85 #[.slice (some ⟨b, 0, none⟩) n cap, .int .i64 x, .int .i64 y] w fun e w' => e = .returned (.tuple #[]) ∧ UDone b n w w' := by
  have HR : Hid _ := hr
  clear hr
  have hx2 : x < 1000000 := by omega
  have hy2 : y < 1000001 := by omega
  go_enter Ybaz.func85, Ybaz.ntmps85
  go_wp2_with fail
  obtain ⟨L, hL⟩ : ∃ L : Nat, (y : Int) - (x : Int) = L := ⟨y - x, by omega⟩
  rw [hL]
  have hL1 : 12 < L := by omega
  have hL2 : x + L ≤ n := by omega
  have hL3 : L < 1000000 := by omega
  clear hL
  refine (pow64 L hL3 _).mono ?_
  rintro e w1 ⟨rfl, rfl⟩
  have hM1 : (1 <<< Sort.bitsLen L) ≤ 2 * L := by rw [Nat.one_shiftLeft]; exact Sort.two_pow_bitsLen_le (by omega)
  have hM0 : 1 ≤ (1 <<< Sort.bitsLen L) := by rw [Nat.one_shiftLeft]; exact Nat.one_le_two_pow
  generalize (1 <<< Sort.bitsLen L) = M at hM1 hM0 ⊢
  go_wp2_with fail
  have hbw : b ≠ w.heap.size := by omega
  have B0 := Blk.new w #[.int .u64 (L : Int)] 222
  have UR : Hid (URow (w.alloc (.cells #[.int .u64 (L : Int)] 222)) b n) := HR.out.keep (Upd.alloc [] _ _) (by simp)
  go_loopw [9] (fun t9 wr => ∃ i X : Nat, t9 = .int .i64 i ∧ x + L / 4 * 2 - 1 ≤ i ∧ i ≤ x + L / 4 * 2 + 2 ∧ X < 18446744073709551616 ∧ wr.cell? ⟨w.heap.size, 0, none⟩ = some (.int .u64 X) ∧ wr.frozen? ⟨w.heap.size, 0, none⟩ = false ∧ URow wr b n ∧ Upd [b, w.heap.size] w wr) (fun u _ => x + L / 4 * 2 + 3 - (intOf u).toNat)
  case atStart => exact ⟨x + L / 4 * 2 - 1, L, by go_num, by omega, by omega, by omega, by simp, B0.free 0, UR.out, Upd.alloc _ _ _⟩
  case round =>
    obtain ⟨i, X, rfl, h1, h2, hX, hc, hf, h3, h4⟩ := hrel
    have D1 : Hid _ := h3
    have D2 : Hid _ := h4
    clear h3 h4 B0 UR
    have hi6 : i < 1000000 := by omega
    by_cases hlt : i ≤ x + L / 4 * 2 + 1
    · have hlt' : (i : Int) ≤ (x : Int) + (L : Int) / 4 * 2 + 1 := by omega
      go_wp2_with fail
      refine (next64 w.heap.size X hX _ hc hf).mono ?_
      rintro e w1 ⟨z, hz, rfl, rfl⟩
      have hand : bits .and .u64 (z : Int) ((M : Int) - 1) = ((z &&& (M - 1) : Nat) : Int) := by
        rw [show (M : Int) - 1 = ((M - 1 : Nat) : Int) by omega]; exact u64_and_nat z (M - 1) hz (by omega)
      have hle : z &&& (M - 1) ≤ M - 1 := Nat.and_le_right
      generalize z &&& (M - 1) = r at hand hle
      have hr6 : r < 2000000 := by omega
      obtain ⟨wz, hwz⟩ : ∃ v : World, v = (wr.setCell ⟨w.heap.size, 0, none⟩ (.int .u64 (z : Int))).drewN 3 := ⟨_, rfl⟩
      rw [← hwz]
      have U1 : Upd [w.heap.size] wr wz := by rw [hwz]; exact (Upd.store _ _ _ _).trans (Upd.drewN [] _ _) (by simp)
      have k1 : wz.cell? ⟨w.heap.size, 0, none⟩ = some (.int .u64 (z : Int)) := by rw [hwz]; exact set_same hc
      have k2 : wz.frozen? ⟨w.heap.size, 0, none⟩ = false := by rw [hwz]; exact set_free hf
      have r1 : URow wz b n := D1.out.keep U1 (by simpa using hbw)
      have u1 : Upd [b, w.heap.size] w wz := D2.out.trans U1 (fun k hk => .inl (by simp at hk; simp [hk]))
      clear hwz hc hf U1
      obtain ⟨G, hG⟩ := r1.cells
      have hF := r1.free
      have R1 : Hid _ := r1
      have U2 : Hid _ := u1
      clear r1 u1
      have hin : i < n := by omega
      go_wp2_with fail
      · rename_i hLr
        obtain ⟨o, ho⟩ : ∃ o : Nat, (r : Int) - (L : Int) = o := ⟨r - L, by omega⟩
        rw [ho]
        have ho1 : x + o < n := by omega
        have ho2 : o < 1000000 := by omega
        have ho3 : x + o < 1000000 := by omega
        have hst := swap_at hG hin ho1
        clear ho hand
        go_big_region
        all_goals go_wp2_with fail
        all_goals exact ⟨⟨i + 1, z, by go_num, by omega, by omega, hz, by simpa [World.cell?_setCell_other, hbw] using k1, by simpa using k2, ((R1.out.drewN 1).put _ _).put _ _, ((U2.out.trans (Upd.drewN [] _ _) (by simp)).trans (Upd.store _ _ _ _) (fun k hk => .inl (by simp at hk; simp [hk]))).trans (Upd.store _ _ _ _) (fun k hk => .inl (by simp at hk; simp [hk]))⟩, by simp [intOf] <;> omega⟩
      · rename_i hLr
        have ho1 : x + r < n := by omega
        have ho2 : r < 1000000 := by omega
        have ho3 : x + r < 1000000 := by omega
        have hst := swap_at hG hin ho1
        clear hand
        go_big_region
        all_goals go_wp2_with fail
        all_goals exact ⟨⟨i + 1, z, by go_num, by omega, by omega, hz, by simpa [World.cell?_setCell_other, hbw] using k1, by simpa using k2, ((R1.out.drewN 1).put _ _).put _ _, ((U2.out.trans (Upd.drewN [] _ _) (by simp)).trans (Upd.store _ _ _ _) (fun k hk => .inl (by simp at hk; simp [hk]))).trans (Upd.store _ _ _ _) (fun k hk => .inl (by simp at hk; simp [hk]))⟩, by simp [intOf] <;> omega⟩
    · have hlt' : ¬ (i : Int) ≤ (x : Int) + (L : Int) / 4 * 2 + 1 := by omega
      go_wp2_with fail
      go_end0
      exact ⟨rfl, D1.out, D2.out.mono (fun k hk => by simp at hk; rcases hk with rfl | rfl; exact .inl (by simp); exact .inr (Nat.le_refl _))⟩
end Go.Proofs.YbulkctquGreatFmt

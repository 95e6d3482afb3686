/-
  cmp.Compare at int and uint64, boolRank, and the order in which newSessionPolygraph numbers the transactions (its second closure).
-/
import Derived.Test.YbulkctquGreatFmtSortA
import Derived.Sort.Grow
namespace Go.Proofs.YbulkctquGreatFmt
open Go.ChangeShapes Go.WideShapes Go.ChangeAt Go.RowKit Go.Ord
set_option linter.unusedVariables false

def cmpZ (x y : Int) : Int := if x < y then -1 else if y < x then 1 else 0
theorem nanI (x : Int) (w : World) : Calls Ybaz.prog 57 #[.int .i64 x] w fun e w' => e = .returned (.bool false) ∧ w' = w := by
  go_enter Ybaz.func57, Ybaz.ntmps57
  go_wp2_with fail
  go_ret
  exact ⟨by simp, rfl⟩
theorem cmpInt (x y : Int) (w : World) : Calls Ybaz.prog 33 #[.int .i64 x, .int .i64 y] w fun e w' => e = .returned (.int .i64 (cmpZ x y)) ∧ w' = w := by
  go_enter Ybaz.func33, Ybaz.ntmps33
  go_wp2_with fail
  refine (nanI x w).mono ?_
  rintro e w' ⟨rfl, rfl⟩
  go_wp2_with fail
  refine (nanI y w').mono ?_
  rintro e w' ⟨rfl, rfl⟩
  go_wp2_with fail
  all_goals go_ret
  all_goals refine ⟨?_, rfl⟩
  all_goals unfold cmpZ
  all_goals simp_all
  all_goals try omega
theorem cmpUint (x y : Int) (w : World) : Calls Ybaz.prog 35 #[.int .u64 x, .int .u64 y] w fun e w' => e = .returned (.int .i64 (cmpZ x y)) ∧ w' = w := by
  go_enter Ybaz.func35, Ybaz.ntmps35
  go_wp2_with fail
  refine (nan64 x w).mono ?_
  rintro e w' ⟨rfl, rfl⟩
  go_wp2_with fail
  refine (nan64 y w').mono ?_
  rintro e w' ⟨rfl, rfl⟩
  go_wp2_with fail
  all_goals go_ret
  all_goals refine ⟨?_, rfl⟩
  all_goals unfold cmpZ
  all_goals simp_all
  all_goals try omega
def bR (b : Bool) : Int := if b then 1 else 0
theorem boolRank (b : Bool) (w : World) : Calls Ybaz.prog 34 #[.bool b] w fun e w' => e = .returned (.int .i64 (bR b)) ∧ w' = w := by
  go_enter Ybaz.func34, Ybaz.ntmps34
  cases b
  all_goals go_wp2_with fail
  all_goals go_ret
  all_goals exact ⟨rfl, rfl⟩

/-- A committed transaction as newSessionPolygraph ranks it. -/
structure Rk where
  s : Nat
  k : Nat
  g : Nat
  t : Bool
  w : Bool
def Rk.cells (r : Rk) : List Value := [.int .i64 r.s, .int .i64 r.k, .int .u64 r.g, .bool r.t, .bool r.w]
def Rk.cmp (a b : Rk) : Int := if a.t ≠ b.t then cmpZ (bR a.t) (bR b.t) else if a.g ≠ b.g then cmpZ a.g b.g else cmpZ (bR (!a.w)) (bR (!b.w))
theorem Rk.cmp1 {a b : Rk} (h : (!a.t == b.t) = true) : a.cmp b = cmpZ (bR a.t) (bR b.t) := by
  rw [Rk.cmp, if_pos (by simpa using h)]
theorem Rk.cmp2 {a b : Rk} (h : (!a.t == b.t) = false) (k : ((a.g : Int) != (b.g : Int)) = true) : a.cmp b = cmpZ a.g b.g := by
  rw [Rk.cmp, if_neg (by simpa using h), if_pos (by simp at k; omega)]
theorem Rk.cmp3 {a b : Rk} (h : (!a.t == b.t) = false) (k : ((a.g : Int) != (b.g : Int)) = false) : a.cmp b = cmpZ (bR (!a.w)) (bR (!b.w)) := by
  rw [Rk.cmp, if_neg (by simpa using h), if_neg (by simp at k; omega)]
theorem two_grow (W : World) (a b : Obj) (q : Nat) : (((W.alloc a).alloc b).drew).drewN q = Sort.grow (W.drewN (q + 1)) #[a, b] := by
  rw [Sort.alloc_eq_grow, Sort.alloc_eq_grow, Sort.grow_grow]
  show (Sort.grow W (#[a] ++ #[b])).drew.drewN q = _
  have : (#[a] ++ #[b] : Array Obj) = #[a, b] := by simp
  rw [this]
  unfold Sort.grow World.drewN World.drew
  simp only [World.mk.injEq, true_and, and_true]
  omega

set_option maxHeartbeats 8000000 in
set_option maxRecDepth 100000 in
theorem cmp32 (W : World) (bx C m cap t u : Nat) (a b : Rk) (hm : m < 1000) (ht : t < m) (hu : u < m) (hc : W.cell? ⟨bx, 0, none⟩ = some (.slice (some ⟨C, 0, none⟩) m cap))
    (hA : ∀ j v, a.cells[j]? = some v → W.cell? ⟨C, t * 5 + j, none⟩ = some v) (hB : ∀ j v, b.cells[j]? = some v → W.cell? ⟨C, u * 5 + j, none⟩ = some v) :
    Calls Ybaz.prog 32 #[.int .i64 t, .int .i64 u, .pointer (some ⟨bx, 0, none⟩)] W fun e w' => e = .returned (.int .i64 (a.cmp b)) ∧ ∃ q os, w' = Sort.grow (W.drewN q) os := by
  have a0 := hA 0 _ rfl
  have a1 := hA 1 _ rfl
  have a2 := hA 2 _ rfl
  have a3 := hA 3 _ rfl
  have a4 := hA 4 _ rfl
  have b0 := hB 0 _ rfl
  have b1 := hB 1 _ rfl
  have b2 := hB 2 _ rfl
  have b3 := hB 3 _ rfl
  have b4 := hB 4 _ rfl
  have hbx : bx < W.heap.size := World.block_lt_of_cell? _ _ hc
  have hC : C < W.heap.size := World.block_lt_of_cell? _ _ a0
  obtain ⟨s1, k1, g1, t1, w1⟩ := a
  obtain ⟨s2, k2, g2, t2, w2⟩ := b
  clear hA hB
  simp only [Nat.add_zero] at a0 b0
  go_enter Ybaz.func32, Ybaz.ntmps32
  go_wp2_with fail
  go_big_region
  all_goals clear a0 a1 a2 a3 a4 b0 b1 b2 b3 b4 hc
  · obtain ⟨Wz, hWz⟩ : ∃ z : World, z = ((W.alloc (.cells #[.int .i64 s1, .int .i64 k1, .int .u64 g1, .bool t1, .bool w1] 125)).alloc (.cells #[.int .i64 s2, .int .i64 k2, .int .u64 g2, .bool t2, .bool w2] 125)).drew := ⟨_, rfl⟩
    rw [← hWz]
    have x2 : Wz.cell? ⟨W.heap.size, 2, none⟩ = some (.int .u64 g1) := by rw [hWz]; simp
    have x3 : Wz.cell? ⟨W.heap.size, 3, none⟩ = some (.bool t1) := by rw [hWz]; simp
    have x4 : Wz.cell? ⟨W.heap.size, 4, none⟩ = some (.bool w1) := by rw [hWz]; simp
    have y2 : Wz.cell? ⟨W.heap.size + 1, 2, none⟩ = some (.int .u64 g2) := by rw [hWz]; simp
    have y3 : Wz.cell? ⟨W.heap.size + 1, 3, none⟩ = some (.bool t2) := by rw [hWz]; simp
    have y4 : Wz.cell? ⟨W.heap.size + 1, 4, none⟩ = some (.bool w2) := by rw [hWz]; simp
    have FIN : Hid (∀ q, ∃ q' os, Wz.drewN q = Sort.grow (W.drewN q') os) := fun q => ⟨q + 1, _, by rw [hWz]; exact two_grow _ _ _ _⟩
    clear hWz
    generalize W.heap.size = B at *
    go_wp2_with fail
    · go_big_quiet (first | (go_at_call 34; refine Calls.quiet_of_same (boolRank _ _)) | (go_at_call 33; refine Calls.quiet_of_same (cmpInt _ _ _)))
      go_wp2_with fail
      go_ret
      rename_i hq
      exact ⟨congrArg (fun z => Ending.returned (.int .i64 z)) (Rk.cmp1 (a := ⟨s1, k1, g1, t1, w1⟩) (b := ⟨s2, k2, g2, t2, w2⟩) hq).symm, FIN.out _⟩
    · refine (cmpUint _ _ _).mono ?_
      rintro e w' ⟨rfl, rfl⟩
      go_wp2_with fail
      go_ret
      rename_i hq1 hq2
      exact ⟨congrArg (fun z => Ending.returned (.int .i64 z)) (Rk.cmp2 (a := ⟨s1, k1, g1, t1, w1⟩) (b := ⟨s2, k2, g2, t2, w2⟩) hq1 hq2).symm, FIN.out 0⟩
    · go_big_quiet (first | (go_at_call 34; refine Calls.quiet_of_same (boolRank _ _)) | (go_at_call 33; refine Calls.quiet_of_same (cmpInt _ _ _)))
      go_wp2_with fail
      go_ret
      rename_i hq1 hq2
      exact ⟨congrArg (fun z => Ending.returned (.int .i64 z)) (Rk.cmp3 (a := ⟨s1, k1, g1, t1, w1⟩) (b := ⟨s2, k2, g2, t2, w2⟩) hq1 hq2).symm, FIN.out _⟩
  · obtain ⟨Wz, hWz⟩ : ∃ z : World, z = ((W.alloc (.cells #[.int .i64 s2, .int .i64 k2, .int .u64 g2, .bool t2, .bool w2] 125)).alloc (.cells #[.int .i64 s1, .int .i64 k1, .int .u64 g1, .bool t1, .bool w1] 125)).drew := ⟨_, rfl⟩
    rw [← hWz]
    have x2 : Wz.cell? ⟨W.heap.size, 2, none⟩ = some (.int .u64 g2) := by rw [hWz]; simp
    have x3 : Wz.cell? ⟨W.heap.size, 3, none⟩ = some (.bool t2) := by rw [hWz]; simp
    have x4 : Wz.cell? ⟨W.heap.size, 4, none⟩ = some (.bool w2) := by rw [hWz]; simp
    have y2 : Wz.cell? ⟨W.heap.size + 1, 2, none⟩ = some (.int .u64 g1) := by rw [hWz]; simp
    have y3 : Wz.cell? ⟨W.heap.size + 1, 3, none⟩ = some (.bool t1) := by rw [hWz]; simp
    have y4 : Wz.cell? ⟨W.heap.size + 1, 4, none⟩ = some (.bool w1) := by rw [hWz]; simp
    have FIN : Hid (∀ q, ∃ q' os, Wz.drewN q = Sort.grow (W.drewN q') os) := fun q => ⟨q + 1, _, by rw [hWz]; exact two_grow _ _ _ _⟩
    clear hWz
    generalize W.heap.size = B at *
    go_wp2_with fail
    · go_big_quiet (first | (go_at_call 34; refine Calls.quiet_of_same (boolRank _ _)) | (go_at_call 33; refine Calls.quiet_of_same (cmpInt _ _ _)))
      go_wp2_with fail
      go_ret
      rename_i hq
      exact ⟨congrArg (fun z => Ending.returned (.int .i64 z)) (Rk.cmp1 (a := ⟨s1, k1, g1, t1, w1⟩) (b := ⟨s2, k2, g2, t2, w2⟩) hq).symm, FIN.out _⟩
    · refine (cmpUint _ _ _).mono ?_
      rintro e w' ⟨rfl, rfl⟩
      go_wp2_with fail
      go_ret
      rename_i hq1 hq2
      exact ⟨congrArg (fun z => Ending.returned (.int .i64 z)) (Rk.cmp2 (a := ⟨s1, k1, g1, t1, w1⟩) (b := ⟨s2, k2, g2, t2, w2⟩) hq1 hq2).symm, FIN.out 0⟩
    · go_big_quiet (first | (go_at_call 34; refine Calls.quiet_of_same (boolRank _ _)) | (go_at_call 33; refine Calls.quiet_of_same (cmpInt _ _ _)))
      go_wp2_with fail
      go_ret
      rename_i hq1 hq2
      exact ⟨congrArg (fun z => Ending.returned (.int .i64 z)) (Rk.cmp3 (a := ⟨s1, k1, g1, t1, w1⟩) (b := ⟨s2, k2, g2, t2, w2⟩) hq1 hq2).symm, FIN.out _⟩
end Go.Proofs.YbulkctquGreatFmt

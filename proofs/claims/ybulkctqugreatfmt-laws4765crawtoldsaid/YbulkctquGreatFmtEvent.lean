/-
  A history in memory, its events too; Event.
-/
import Derived.Test.YbulkctquGreatFmtNames
import Derived.Test.YbulkctquGreatFmtMaps
import Derived.BigQuiet
import Derived.Laws.Rows
namespace Go.Proofs.YbulkctquGreatFmt
open Go.ChangeShapes Go.WideShapes Go.ChangeAt Go.RowKit Go.Ord
set_option linter.unusedVariables false

def Ev.cells (v : Ev) : List Value := [.int .u8 v.k, .int .u64 v.x, .int .u64 v.v, .bool v.i]
/-- A history and its events. -/
structure HistE (w : World) (R : HR) (hs : List (List Tx)) : Prop where
  base : HistAt w R hs
  ev : ∀ s l k t e v j u, hs[s]? = some l → l[k]? = some t → t.evs[e]? = some v → v.cells[j]? = some u → w.cell? ⟨R.evs s k, e * 4 + j, none⟩ = some u
theorem HistE.keep {w w' : World} {R : HR} {hs : List (List Tx)} (H : HistE w R hs) (h : ∀ b j v, w.cell? ⟨b, j, none⟩ = some v → w'.cell? ⟨b, j, none⟩ = some v) : HistE w' R hs :=
  ⟨H.base.keep h, fun s l k t e v j u h1 h2 h3 h4 => h _ _ _ (H.ev s l k t e v j u h1 h2 h3 h4)⟩
theorem HistE.below {w w' : World} {R : HR} {hs : List (List Tx)} (H : HistE w R hs) (hb : Below w.heap.size w w') : HistE w' R hs :=
  H.keep fun b j v hv => (hb.cell (World.block_lt_of_cell? _ _ hv)).trans hv

set_option maxHeartbeats 4000000 in
set_option maxRecDepth 100000 in
theorem event25 (w : World) (R : HR) (hs : List (List Tx)) (H : HistE w R hs) (cap s k e : Nat) (l : List Tx) (t : Tx) (v : Ev) (h1 : hs[s]? = some l) (h2 : l[k]? = some t) (h3 : t.evs[e]? = some v) (hl : hs.length < 1000) (hl2 : l.length < 1000) (hl3 : t.evs.length < 1000) :
    Calls Ybaz.prog 25 #[.agg #[.slice (some ⟨R.top, 0, none⟩) hs.length cap], .agg #[.int .i64 s, .int .i64 k, .int .i64 e]] w fun r w' => r = .returned (.agg #[.int .u8 v.k, .int .u64 v.x, .int .u64 v.v, .bool v.i]) ∧ Below w.heap.size w w' := by
  have hs1 := (List.getElem?_eq_some_iff.mp h1).1
  have hk1 := (List.getElem?_eq_some_iff.mp h2).1
  have he1 := (List.getElem?_eq_some_iff.mp h3).1
  obtain ⟨o1, c1, d1⟩ := H.base.ses s l h1
  obtain rfl := d1 (by intro e; rw [e] at hk1; simp at hk1)
  obtain ⟨o2, c2, d2⟩ := H.base.evs s l k t h1 h2
  obtain rfl := d2 (by intro e; rw [e] at he1; simp at he1)
  have a0 := H.ev s l k t e v 0 _ h1 h2 h3 rfl
  have a1 := H.ev s l k t e v 1 _ h1 h2 h3 rfl
  have a2 := H.ev s l k t e v 2 _ h1 h2 h3 rfl
  have a3 := H.ev s l k t e v 3 _ h1 h2 h3 rfl
  simp only [Nat.add_zero] at a0
  have b0 : R.top < w.heap.size := World.block_lt_of_cell? _ _ c1
  have b1 : R.ses s < w.heap.size := World.block_lt_of_cell? _ _ c2
  have b2 : R.evs s k < w.heap.size := World.block_lt_of_cell? _ _ a0
  obtain ⟨W, hW⟩ : ∃ z : World, z = ((w.alloc (.cells #[.slice (some ⟨R.top, 0, none⟩) hs.length cap] 29)).alloc (.cells #[.int .i64 s, .int .i64 k, .int .i64 e] 56)).alloc (.cells #[.int .u8 0, .int .u64 0, .int .u64 0, .bool false] 37) := ⟨_, rfl⟩
  clear h1 h2 h3 d1 d2 H
  go_enter Ybaz.func25, Ybaz.ntmps25
  go_wp2_with fail
  rw [← hW, show w.heap.size + 1 + 1 = w.heap.size + 2 from rfl]
  obtain ⟨x1, e1⟩ : ∃ z : World, z = w.alloc (.cells #[.slice (some ⟨R.top, 0, none⟩) hs.length cap] 29) := ⟨_, rfl⟩
  obtain ⟨x2, e2⟩ : ∃ z : World, z = x1.alloc (.cells #[.int .i64 s, .int .i64 k, .int .i64 e] 56) := ⟨_, rfl⟩
  rw [← e1, ← e2] at hW
  have z1 : x1.heap.size = w.heap.size + 1 := by rw [e1]; simp
  have z2 : x2.heap.size = w.heap.size + 2 := by rw [e2]; simp [z1]
  have u1 : Upd [] w x1 := by rw [e1]; exact Upd.alloc _ _ _
  have u2 : Upd [] x1 x2 := by rw [e2]; exact Upd.alloc _ _ _
  have u3 : Upd [] x2 W := by rw [hW]; exact Upd.alloc _ _ _
  have U := (u1.trans u2 (by simp)).trans u3 (by simp)
  have k0 : Blk W w.heap.size 29 #[.slice (some ⟨R.top, 0, none⟩) hs.length cap] := by
    have := Blk.new w #[.slice (some ⟨R.top, 0, none⟩) hs.length cap] 29
    rw [← e1] at this
    exact Blk.keep (Blk.keep this u2 (by simp)) u3 (by simp)
  have k1 : Blk W (w.heap.size + 1) 56 #[.int .i64 s, .int .i64 k, .int .i64 e] := by
    have := Blk.new x1 #[.int .i64 s, .int .i64 k, .int .i64 e] 56
    rw [← e2, z1] at this
    exact Blk.keep this u3 (by simp)
  have k2 : Blk W (w.heap.size + 2) 37 #[.int .u8 0, .int .u64 0, .int .u64 0, .bool false] := by
    have := Blk.new x2 #[.int .u8 0, .int .u64 0, .int .u64 0, .bool false] 37
    rw [← hW, z2] at this
    exact this
  have q0 : W.cell? ⟨w.heap.size, 0, none⟩ = some (.slice (some ⟨R.top, 0, none⟩) hs.length cap) := k0.cell 0
  have q1 : W.cell? ⟨w.heap.size + 1, 0, none⟩ = some (.int .i64 s) := k1.cell 0
  have q2 : W.cell? ⟨w.heap.size + 1, 1, none⟩ = some (.int .i64 k) := k1.cell 1
  have q3 : W.cell? ⟨w.heap.size + 1, 2, none⟩ = some (.int .i64 e) := k1.cell 2
  have r0 : W.cell? ⟨w.heap.size + 2, 0, none⟩ = some (.int .u8 0) := k2.cell 0
  have r1 : W.cell? ⟨w.heap.size + 2, 1, none⟩ = some (.int .u64 0) := k2.cell 1
  have r2 : W.cell? ⟨w.heap.size + 2, 2, none⟩ = some (.int .u64 0) := k2.cell 2
  have r3 : W.cell? ⟨w.heap.size + 2, 3, none⟩ = some (.bool false) := k2.cell 3
  have f0 := Blk.free k2 0
  have f1 := Blk.free k2 1
  have f2 := Blk.free k2 2
  have f3 := Blk.free k2 3
  have m1 := U.cell c1 (by simp)
  have m2 := U.cell c2 (by simp)
  have n0 := U.cell a0 (by simp)
  have n1 := U.cell a1 (by simp)
  have n2 := U.cell a2 (by simp)
  have n3 := U.cell a3 (by simp)
  have K2 : Hid (Blk W (w.heap.size + 2) 37 #[.int .u8 0, .int .u64 0, .int .u64 0, .bool false]) := k2
  have UU : Hid _ := U
  clear hW e1 e2 z1 z2 u1 u2 u3 U k0 k1 k2 c1 c2 a0 a1 a2 a3
  go_big_region
  all_goals go_wp2_with fail
  all_goals (
    obtain ⟨V, hV⟩ : ∃ z : World, z = ((((W.setCell ⟨w.heap.size + 2, 0, none⟩ (.int .u8 v.k)).setCell ⟨w.heap.size + 2, 1, none⟩ (.int .u64 v.x)).setCell ⟨w.heap.size + 2, 2, none⟩ (.int .u64 v.v)).setCell ⟨w.heap.size + 2, 3, none⟩ (.bool v.i)).drew := ⟨_, rfl⟩
    rw [← hV]
    have B : Blk V (w.heap.size + 2) 37 #[.int .u8 v.k, .int .u64 v.x, .int .u64 v.v, .bool v.i] := by
      have := Blk.keep (Blk.store (Blk.store (Blk.store (Blk.store K2.out 0 (.int .u8 v.k)) 1 (.int .u64 v.x)) 2 (.int .u64 v.v)) 3 (.bool v.i)) (Upd.drew [] _) (by simp)
      rw [hV]
      simpa using this
    have B2 : Below w.heap.size w V := by
      have u : Upd [w.heap.size + 2] w V := by
        rw [hV]
        exact (((((UU.out.mono (T := [w.heap.size + 2]) (by simp)).trans (Upd.store _ _ _ _) (fun k hk => .inl hk)).trans (Upd.store _ _ _ _) (fun k hk => .inl hk)).trans (Upd.store _ _ _ _) (fun k hk => .inl hk)).trans (Upd.store _ _ _ _) (fun k hk => .inl hk)).trans (Upd.drew [] _) (by simp)
      exact u.below (Nat.le_refl _) (by simp)
    (try simp only [Exit.inBlock, Exit.then])
    refine bodyPost_ret (results_cell_row rfl _ _ (w.heap.size + 2) 37 _ (0, 0) _ rfl B Ybaz.underlying37 rfl (by kernel_rfl)) rfl ?_
    exact ⟨rfl, B2⟩)
end Go.Proofs.YbulkctquGreatFmt

/-
  The law's walk.
-/
import Derived.Test.YbulkcuioParts
namespace Go.Proofs.Ybulkcuio.lawS4798CAnswer
open Go.ChangeShapes Go.WideShapes Go.ChangeAt Go.RowKit
open Go.ChangeMaps (setBlock heap_setBlock_same heap_setBlock_other)
set_option linter.unusedVariables false

/-- The collector's cells as New lays them, m at the place of the set. -/
def coll (m : Option Nat) : Array Value := #[Value.nilIface, Value.pointer none, Value.int IntKind.i64 0, Value.nilIface, Value.pointer none,
          Value.int IntKind.i64 0, Value.nilIface, Value.pointer none, Value.int IntKind.i64 0, Value.nilIface,
          Value.pointer none, Value.int IntKind.i64 0, Value.map none, Value.int IntKind.i64 0, Value.int IntKind.i64 0,
          Value.int IntKind.i64 0, Value.int IntKind.i64 0, Value.int IntKind.i64 0, Value.int IntKind.i64 0,
          Value.int IntKind.i64 700, Value.int IntKind.i64 10, Value.int IntKind.i64 10, Value.bool true, Value.nilFunc,
          Value.int IntKind.i64 0, Value.int IntKind.i64 0, Value.map none, Value.int IntKind.i64 0, Value.map m,
          Value.int IntKind.i64 0, Value.slice none 0 0, Value.slice none 0 0, Value.bool false, Value.bool false,
          Value.bool false, Value.bool false, Value.int IntKind.i64 0, Value.nilIface, Value.slice none 0 0,
          Value.int IntKind.i64 0, Value.int IntKind.i64 0, Value.int IntKind.i64 0, Value.int IntKind.i64 0,
          Value.int IntKind.i64 0, Value.int IntKind.i64 0, Value.int IntKind.i64 0, Value.int IntKind.i64 0,
          Value.int IntKind.i64 0, Value.slice none 0 0, Value.nilFunc]

theorem new_any (w : World) : Calls Yba.prog 4 #[] w fun e w' => e = .returned (.pointer (some ⟨w.heap.size, 0, none⟩)) ∧ w' = w.alloc (.cells (coll none) 52) := by
  go_enter Yba.func4, Yba.ntmps4
  go_wp2
  go_ret
  exact ⟨rfl, rfl⟩

theorem cell_of {W : World} {b : Nat} {c : Array Value} {t : TypeId} (h : W.heap[b]? = some (.cells c t (0, 0))) (j : Nat) : W.cell? ⟨b, j, none⟩ = c[j]? := by
  simp [World.cell?, h]
theorem free_of {W : World} {b : Nat} {c : Array Value} {t : TypeId} (h : W.heap[b]? = some (.cells c t (0, 0))) (j : Nat) : W.frozen? ⟨b, j, none⟩ = false := by
  simp [World.frozen?, h]

set_option maxRecDepth 100000 in
set_option maxHeartbeats 4000000 in
theorem walk (a0 : Int) (a1 : Bool) (a2 : Bool) (a3 : Bool) (a4 : Int) (w0 : (Lit.int .i64 a0).wf = true) (w4 : (Lit.int .u8 a4).wf = true) (w : World) :
    Calls Yba.prog 3 #[.int .i64 a0, .bool a1, .bool a2, .bool a3, .int .u8 a4] w fun e w' => e = .returned (.bool true) ∧ Below w.heap.size w w' := by
  have hmm := @run_makeMap Yba.prog
  have hb4 : 0 ≤ a4 ∧ a4 < 256 := by
    simp [Lit.wf, IntKind.min, IntKind.max, IntKind.signed, IntKind.bits] at w4
    exact ⟨by omega, by omega⟩
  obtain ⟨h4, h4'⟩ := hb4
  obtain ⟨n, hn⟩ : ∃ n : Nat, a4 % 8 = n := ⟨_, (Int.toNat_of_nonneg (by omega)).symm⟩
  have hn8 : n < 8 := by omega
  have c1 : (coll none)[28]? = some (Value.map none) := rfl
  have c2 : (w.alloc (.cells (coll none) 52)).setCell ⟨w.heap.size, 28, none⟩ (.map (some (w.heap.size + 1))) = w.alloc (.cells (coll (some (w.heap.size + 1))) 52) := by
    rw [World.setCell_alloc_at _ _ _ _ _ rfl]
    rfl
  go_enter Yba.func3, Yba.ntmps3
  go_wp2_with (go_at_call 4; refine (new_any _).mono ?_; rintro e w' ⟨rfl, rfl⟩)
  clear c1 c2 hmm hn h4 h4' w4 w0
  go_loopw [13] (fun t wr => ∃ (k : Nat) (es : Array MapEntry) (clock : Nat), k ≤ n ∧ t = .int .i64 k ∧ wr.cell? ⟨w.heap.size, 28, none⟩ = some (.map (some (w.heap.size + 1))) ∧ Inv w.heap.size w wr es clock) (fun i _ => n - (intOf i).toNat)
  case atStart =>
    refine ⟨0, #[], 0, by omega, rfl, ?_, ⟨?_, ?_, ?_, ?_⟩⟩
    · rw [World.cell?_alloc_past _ _ _ (by simp)]; simp; rfl
    · have := heap_alloc_at (w.alloc (.cells (coll (some (w.heap.size + 1))) 52)) (.map #[] 0)
      simpa using this
    · intro e he; simp at he
    · exact ((Below.refl _ _).alloc (Nat.le_refl _) _).alloc (by simp) _
    · simp
  case round =>
    obtain ⟨k, es, clock, hk, rfl, hc, hinv⟩ := hrel
    have hbig := hinv.big
    have hlt0 : w.heap.size < wr.heap.size := by omega
    by_cases hlt : k < n
    · obtain ⟨w2, hrun, hinv2, hoth⟩ := hinv.put rfl #[.int .i64 k, .nilIface] 55
      have hc2 : w2.cell? ⟨w.heap.size, 28, none⟩ = some (.map (some (w.heap.size + 1))) := by
        rw [World.cell?_of_block (hoth w.heap.size (by omega)), World.cell?_alloc_past _ _ _ (by omega)]; exact hc
      go_wp2_with (first | (at_mapUpdate; refine wpList_mapUpdate_run rfl _ _ _ 24 rfl _ _ _ rfl rfl rfl w2 hrun ?_))
      go_roundw
      case rel => first | exact ⟨k + 1, _, _, by omega, by go_num, hc2, hinv2⟩ | ((repeat apply Exists.intro); refine ⟨?_, rfl⟩; exact ⟨k + 1, _, _, by omega, by go_num, hc2, hinv2⟩)
      case measure => simp [intOf]; omega
    · cases a1
      · cases a3
        · by_cases hr : a0 < 0
          · have hst := hinv.state_no #[.int .i64 a0, .nilIface] 61
            have hbel := hinv.below
            have l2 := hst.len
            have k2 := hst.look
            clear hinv hst
            go_wp2_with (first
              | (go_at_call 25; refine (header_any _ _).mono ?_; rintro e w' ⟨rfl, rfl⟩)
              | (go_at_call 5; refine (isfin_plain_dead _ wr.heap.size a0 _ hr (by simp)).mono ?_; rintro e w' ⟨rfl, rfl⟩))
            go_ret
            exact ⟨rfl, ((hbel.alloc (by omega) _).alloc (by simp; omega) _)⟩
          · have hst := hinv.state_no #[.int .i64 a0, .nilIface] 61
            have hbel := hinv.below
            have l2 := hst.len
            have k2 := hst.look
            have l3 := (hst.alloc (.cells #[] 53)).len
            have k3 := (hst.alloc (.cells #[] 53)).look
            clear hinv hst
            go_wp2_with (first
              | (go_at_call 25; refine (header_any _ _).mono ?_; rintro e w' ⟨rfl, rfl⟩)
              | (go_at_call 5; refine (isfin_live 59 (.inr rfl) w.heap.size (w.heap.size + 1) wr.heap.size a0 false _ (by omega) (by simp) ((World.cell?_alloc_past _ _ _ hlt0).trans hc) k2).mono ?_; rintro e w' ⟨rfl, rfl⟩))
            go_ret
            exact ⟨rfl, (((hbel.alloc (by omega) _).alloc (by simp; omega) _).alloc (by simp; omega) _)⟩
        · by_cases hr : a0 < 0
          · obtain ⟨w2, hrun, hst, hbel, hoth⟩ := hinv.state_yes rfl #[.int .i64 a0, .nilIface] 61
            have hc2 : w2.cell? ⟨w.heap.size, 28, none⟩ = some (.map (some (w.heap.size + 1))) := by
              rw [World.cell?_of_block (hoth w.heap.size (by omega)), World.cell?_alloc_past _ _ _ (by omega)]; exact hc
            have hob : w2.heap[wr.heap.size]? = some (.cells #[.int .i64 a0, .nilIface] 61 (0, 0)) := (hoth _ (by omega)).trans (heap_alloc_at _ _)
            have hz2 : wr.heap.size < w2.heap.size := lt_of_heap hob
            have hz3 : w.heap.size < w2.heap.size := by omega
            have o0 := cell_of hob 0
            simp at o0
            have l2 := hst.len
            have k2 := hst.look
            clear hoth hinv hst hob
            go_wp2_with (first
              | (at_mapUpdate; refine wpList_mapUpdate_run rfl _ _ _ 24 rfl _ _ _ rfl rfl rfl w2 hrun ?_)
              | (go_at_call 25; refine (header_any _ _).mono ?_; rintro e w' ⟨rfl, rfl⟩)
              | (go_at_call 5; refine (isfin_plain_dead _ wr.heap.size a0 _ hr o0).mono ?_; rintro e w' ⟨rfl, rfl⟩))
            go_ret
            exact ⟨rfl, (hbel.alloc (by omega) _)⟩
          · obtain ⟨w2, hrun, hst, hbel, hoth⟩ := hinv.state_yes rfl #[.int .i64 a0, .nilIface] 61
            have hc2 : w2.cell? ⟨w.heap.size, 28, none⟩ = some (.map (some (w.heap.size + 1))) := by
              rw [World.cell?_of_block (hoth w.heap.size (by omega)), World.cell?_alloc_past _ _ _ (by omega)]; exact hc
            have hob : w2.heap[wr.heap.size]? = some (.cells #[.int .i64 a0, .nilIface] 61 (0, 0)) := (hoth _ (by omega)).trans (heap_alloc_at _ _)
            have hz2 : wr.heap.size < w2.heap.size := lt_of_heap hob
            have hz3 : w.heap.size < w2.heap.size := by omega
            have o0 := cell_of hob 0
            simp at o0
            have l2 := hst.len
            have k2 := hst.look
            have l3 := (hst.alloc (.cells #[] 53)).len
            have k3 := (hst.alloc (.cells #[] 53)).look
            clear hoth hinv hst hob
            go_wp2_with (first
              | (at_mapUpdate; refine wpList_mapUpdate_run rfl _ _ _ 24 rfl _ _ _ rfl rfl rfl w2 hrun ?_)
              | (go_at_call 25; refine (header_any _ _).mono ?_; rintro e w' ⟨rfl, rfl⟩)
              | (go_at_call 5; refine (isfin_live 59 (.inr rfl) w.heap.size (w.heap.size + 1) wr.heap.size a0 true _ (by omega) o0 hc2 k2).mono ?_; rintro e w' ⟨rfl, rfl⟩))
            go_ret
            exact ⟨rfl, ((hbel.alloc (by omega) _).alloc (by simp; omega) _)⟩
      · cases a3
        · by_cases hr : a0 < 0
          · have hst := hinv.state_no #[.int .i64 a0, .nilIface, .bool a2, .int .i64 0] 58
            have hbel := hinv.below
            have l2 := hst.len
            have k2 := hst.look
            have l3 := (hinv.state_no #[.int .i64 a0, .nilIface, .bool a2, .int .i64 1] 58).len
            have k3 := (hinv.state_no #[.int .i64 a0, .nilIface, .bool a2, .int .i64 1] 58).look
            clear hinv hst
            go_wp2_with (first
              | (go_at_call 25; refine (header_any _ _).mono ?_; rintro e w' ⟨rfl, rfl⟩)
              | (go_at_call 5; refine (isfin_fin_dead _ wr.heap.size a2 a0 _ hr (by simp) (by simp) (by simp) (by simp)).mono ?_; rintro e w' ⟨rfl, rfl⟩))
            go_ret
            exact ⟨rfl, ((hbel.alloc (by omega) _).alloc (by simp; omega) _)⟩
          · have hst := hinv.state_no #[.int .i64 a0, .nilIface, .bool a2, .int .i64 0] 58
            have hbel := hinv.below
            have l2 := hst.len
            have k2 := hst.look
            have l3 := (hst.alloc (.cells #[] 53)).len
            have k3 := (hst.alloc (.cells #[] 53)).look
            clear hinv hst
            go_wp2_with (first
              | (go_at_call 25; refine (header_any _ _).mono ?_; rintro e w' ⟨rfl, rfl⟩)
              | (go_at_call 5; refine (isfin_live 56 (.inl rfl) w.heap.size (w.heap.size + 1) wr.heap.size a0 false _ (by omega) (by simp) ((World.cell?_alloc_past _ _ _ hlt0).trans hc) k2).mono ?_; rintro e w' ⟨rfl, rfl⟩))
            go_ret
            exact ⟨rfl, (((hbel.alloc (by omega) _).alloc (by simp; omega) _).alloc (by simp; omega) _)⟩
        · by_cases hr : a0 < 0
          · obtain ⟨w2, hrun, hst, hbel, hoth⟩ := hinv.state_yes rfl #[.int .i64 a0, .nilIface, .bool a2, .int .i64 0] 58
            have hc2 : w2.cell? ⟨w.heap.size, 28, none⟩ = some (.map (some (w.heap.size + 1))) := by
              rw [World.cell?_of_block (hoth w.heap.size (by omega)), World.cell?_alloc_past _ _ _ (by omega)]; exact hc
            have hob : w2.heap[wr.heap.size]? = some (.cells #[.int .i64 a0, .nilIface, .bool a2, .int .i64 0] 58 (0, 0)) := (hoth _ (by omega)).trans (heap_alloc_at _ _)
            have hz2 : wr.heap.size < w2.heap.size := lt_of_heap hob
            have hz3 : w.heap.size < w2.heap.size := by omega
            have o0 := cell_of hob 0
            have o2 := cell_of hob 2
            have o3 := cell_of hob 3
            have of := free_of hob 3
            simp at o0 o2 o3
            have l2 := hst.len
            have k2 := hst.look
            have l3 := (hst.setCell 3 (.int .i64 1)).len
            have k3 := (hst.setCell 3 (.int .i64 1)).look
            clear hoth hinv hst hob
            go_wp2_with (first
              | (at_mapUpdate; refine wpList_mapUpdate_run rfl _ _ _ 24 rfl _ _ _ rfl rfl rfl w2 hrun ?_)
              | (go_at_call 25; refine (header_any _ _).mono ?_; rintro e w' ⟨rfl, rfl⟩)
              | (go_at_call 5; refine (isfin_fin_dead _ wr.heap.size a2 a0 _ hr o0 o2 o3 of).mono ?_; rintro e w' ⟨rfl, rfl⟩))
            go_ret
            exact ⟨rfl, ((hbel.setCell (p := ⟨wr.heap.size, 3, none⟩) (by show w.heap.size ≤ wr.heap.size; omega) _).alloc (by simp; omega) _)⟩
          · obtain ⟨w2, hrun, hst, hbel, hoth⟩ := hinv.state_yes rfl #[.int .i64 a0, .nilIface, .bool a2, .int .i64 0] 58
            have hc2 : w2.cell? ⟨w.heap.size, 28, none⟩ = some (.map (some (w.heap.size + 1))) := by
              rw [World.cell?_of_block (hoth w.heap.size (by omega)), World.cell?_alloc_past _ _ _ (by omega)]; exact hc
            have hob : w2.heap[wr.heap.size]? = some (.cells #[.int .i64 a0, .nilIface, .bool a2, .int .i64 0] 58 (0, 0)) := (hoth _ (by omega)).trans (heap_alloc_at _ _)
            have hz2 : wr.heap.size < w2.heap.size := lt_of_heap hob
            have hz3 : w.heap.size < w2.heap.size := by omega
            have o0 := cell_of hob 0
            have o2 := cell_of hob 2
            have o3 := cell_of hob 3
            have of := free_of hob 3
            simp at o0 o2 o3
            have l2 := hst.len
            have k2 := hst.look
            have l3 := (hst.alloc (.cells #[] 53)).len
            have k3 := (hst.alloc (.cells #[] 53)).look
            clear hoth hinv hst hob
            go_wp2_with (first
              | (at_mapUpdate; refine wpList_mapUpdate_run rfl _ _ _ 24 rfl _ _ _ rfl rfl rfl w2 hrun ?_)
              | (go_at_call 25; refine (header_any _ _).mono ?_; rintro e w' ⟨rfl, rfl⟩)
              | (go_at_call 5; refine (isfin_live 56 (.inl rfl) w.heap.size (w.heap.size + 1) wr.heap.size a0 true _ (by omega) o0 hc2 k2).mono ?_; rintro e w' ⟨rfl, rfl⟩))
            go_ret
            exact ⟨rfl, ((hbel.alloc (by omega) _).alloc (by simp; omega) _)⟩
end Go.Proofs.Ybulkcuio.lawS4798CAnswer

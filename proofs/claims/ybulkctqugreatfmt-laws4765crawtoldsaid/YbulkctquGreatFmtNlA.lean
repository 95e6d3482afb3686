/-
  The history of no sessions (nil): model, names, versions, misread, witness.
-/
import Derived.Test.YbulkctquGreatFmtCfP
import Derived.Test.YbulkctquGreatFmtMo5
namespace Go.Proofs.YbulkctquGreatFmt
open Go.ChangeShapes Go.WideShapes Go.ChangeAt Go.RowKit Go.Ord
set_option linter.unusedVariables false

theorem at_nil {s k e : Nat} {x : Ev} (h : At [] s k e x) : False := by
  obtain ⟨l, t, h1, _⟩ := h
  simp at h1
theorem hok_nil : HOk [] := ⟨fun _ _ _ _ h => (at_nil h).elim, fun _ _ _ _ h => (at_nil h).elim, fun _ _ _ _ _ _ _ _ h => (at_nil h).elim, fun _ _ _ _ h => (at_nil h).elim, by simp, by simp, by simp⟩
theorem rok_nil : ROk [] := ⟨fun _ _ _ _ h => (at_nil h).elim, fun _ _ _ _ h => (at_nil h).elim, fun _ _ _ _ h => (at_nil h).elim, fun _ _ _ _ h => (at_nil h).elim, fun _ _ _ _ h => (at_nil h).elim⟩
theorem wf_nil : WF [] (fun _ => none) := ⟨fun _ _ h => (by cases h), fun _ _ _ _ h => (at_nil h).elim⟩
theorem rc_nil {F : Nat → Option Wr} {s k e : Nat} : RC [] F s k e := fun _ _ _ _ _ h => by obtain ⟨v, h, _⟩ := h; exact at_nil h
set_option maxRecDepth 100000 in
theorem names7N (w : World) : Calls Ybaz.prog 7 #[.agg #[.slice none 0 0]] w fun e w' => e = .returned (.tuple #[.slice none 0 0, .slice none 0 0]) ∧ Below w.heap.size w w' := by
  go_enter Ybaz.func7, Ybaz.ntmps7
  go_wp2_with fail
  obtain ⟨W1, hW1⟩ : ∃ z : World, z = w.alloc (.cells #[.slice none 0 0] 29) := ⟨_, rfl⟩
  have B1 : Hid (Below w.heap.size w W1) := by show Below _ _ _; rw [hW1]; exact (Upd.alloc [] _ _).below (Nat.le_refl _) (by simp)
  rw [← hW1]
  clear hW1
  go_loopw [4, 5, 14] (fun t4 t5 t14 wr => t14 = .int .i64 0 ∧ t4 = .slice none 0 0 ∧ t5 = .slice none 0 0 ∧ wr = W1) (fun _ _ _ _ => 0)
  case atStart => exact ⟨rfl, rfl, rfl, rfl⟩
  case round =>
    obtain ⟨rfl, rfl, rfl, rfl⟩ := hrel
    go_wp2_with fail
    go_ret2
    exact ⟨rfl, B1.out⟩
set_option maxRecDepth 100000 in
theorem model5N (w : World) : Calls Ybaz.prog 5 #[.agg #[.slice none 0 0]] w fun e w' => e = .returned (.tuple #[.slice none 0 0, .bool false]) ∧ Below w.heap.size w w' := by
  go_enter Ybaz.func5, Ybaz.ntmps5
  go_wp2_with fail
  obtain ⟨W1, hW1⟩ : ∃ z : World, z = w.alloc (.cells #[.slice none 0 0] 29) := ⟨_, rfl⟩
  have B1 : Hid (Below w.heap.size w W1) := by show Below _ _ _; rw [hW1]; exact (Upd.alloc [] _ _).below (Nat.le_refl _) (by simp)
  have c1 : W1.cell? ⟨w.heap.size, 0, none⟩ = some (.slice none 0 0) := by rw [hW1]; exact (Blk.new w #[.slice none 0 0] 29).cell 0
  rw [← hW1]
  clear hW1
  go_loopw [4, 21] (fun t4 t21 wr => t21 = .int .i64 0 ∧ t4 = .slice none 0 0 ∧ wr = W1) (fun _ _ _ => 0)
  case atStart => exact ⟨rfl, rfl, rfl⟩
  case round =>
    obtain ⟨rfl, rfl, rfl⟩ := hrel
    go_wp2_with fail
    go_loopw [81] (fun t81 wz => t81 = .int .i64 0 ∧ wz = wr) (fun _ _ => 0)
    case atStart => exact ⟨rfl, rfl⟩
    case round =>
      obtain ⟨rfl, rfl⟩ := hrel
      go_wp2_with fail
      go_ret2
      exact ⟨rfl, B1.out⟩
set_option maxRecDepth 100000 in
theorem vers11N (w : World) : Calls Ybaz.prog 11 #[.agg #[.slice none 0 0]] w (VrPostC w []) := by
  have hmm := @run_makeMap Ybaz.prog
  go_enter Ybaz.func11, Ybaz.ntmps11
  go_wp2_with fail
  clear hmm
  obtain ⟨W1, hW1⟩ : ∃ z : World, z = ((w.alloc (.cells #[.slice none 0 0] 29)).alloc (.map #[] 0)).alloc (.map #[] 0) := ⟨_, rfl⟩
  have B1 : Hid (Below w.heap.size w W1) := by show Below _ _ _; rw [hW1]; exact (((Upd.alloc [] _ _).trans (Upd.alloc [] _ _) (by simp)).trans (Upd.alloc [] _ _) (by simp)).below (Nat.le_refl _) (by simp)
  have M1 : Hid (MapAt W1 (ik .u64) (w.heap.size + 1) (fun v => ((fun _ => none : Nat → Option Wr) v).map Wr.val)) := by
    have q := MapAt.new (w.alloc (.cells #[.slice none 0 0] 29)) (ik .u64)
    simp only [World.size_alloc] at q
    have q2 := q.keep (Upd.alloc [] _ (.map #[] 0)) (by simp)
    rw [hW1]
    exact q2.congr (fun y => rfl)
  have c1 : W1.cell? ⟨w.heap.size, 0, none⟩ = some (.slice none 0 0) := by rw [hW1]; exact (Upd.alloc [] _ _).cell ((Upd.alloc [] _ _).cell ((Blk.new w #[.slice none 0 0] 29).cell 0) (by simp)) (by simp)
  rw [← hW1]
  clear hW1
  go_loopw [31] (fun t31 wr => t31 = .int .i64 0 ∧ wr = W1) (fun _ _ => 0)
  case atStart => exact ⟨rfl, rfl⟩
  case round =>
    obtain ⟨rfl, rfl⟩ := hrel
    go_wp2_with fail
    go_loopw [138] (fun t138 wz => t138 = .int .i64 0 ∧ wz = wr) (fun _ _ => 0)
    case atStart => exact ⟨rfl, rfl⟩
    case round =>
      obtain ⟨rfl, rfl⟩ := hrel
      go_wp2_with fail
      go_ret2
      exact .inl ⟨_, _, rfl, M1.out, by omega, B1.out, wf_nil, hok_nil⟩
set_option maxRecDepth 100000 in
theorem mis13N (w : World) (bm : Nat) (F : Nat → Option Wr) : Calls Ybaz.prog 13 #[.agg #[.slice none 0 0], .map (some bm)] w (MrPostC w [] F) := by
  have hmm := @run_makeMap Ybaz.prog
  go_enter Ybaz.func13, Ybaz.ntmps13
  go_wp2_with fail
  obtain ⟨W1, hW1⟩ : ∃ z : World, z = w.alloc (.cells #[.slice none 0 0] 29) := ⟨_, rfl⟩
  have U1 : Upd [] w W1 := by rw [hW1]; exact Upd.alloc _ _ _
  have c1 : W1.cell? ⟨w.heap.size, 0, none⟩ = some (.slice none 0 0) := by rw [hW1]; exact (Blk.new w #[.slice none 0 0] 29).cell 0
  have c2 : (W1.alloc (.map #[] 0)).cell? ⟨w.heap.size, 0, none⟩ = some (.slice none 0 0) := (Upd.alloc [] _ _).cell c1 (by simp)
  have U1H : Hid (Upd [] w W1) := U1
  rw [← hW1]
  clear hW1 U1
  go_loopw [27] (fun t27 wr => t27 = .int .i64 0 ∧ wr = W1) (fun _ _ => 0)
  case atStart => exact ⟨rfl, rfl⟩
  case round =>
    obtain ⟨rfl, rfl⟩ := hrel
    go_wp2_with fail
    clear hmm
    go_loopw [88] (fun t88 wz => t88 = .int .i64 0 ∧ wz = wr.alloc (.map #[] 0)) (fun _ _ => 0)
    case atStart => exact ⟨rfl, rfl⟩
    case round =>
      obtain ⟨rfl, rfl⟩ := hrel
      go_wp2_with fail
      go_ret
      exact .inl ⟨rfl, rok_nil, rc_nil, (U1H.out.trans (Upd.alloc [] _ _) (by simp)).below (Nat.le_refl _) (by simp)⟩
set_option maxRecDepth 100000 in
theorem wit10N (w : World) (g c : Nat) : Calls Ybaz.prog 10 #[.agg #[.slice none 0 0], .slice (some ⟨g, 0, none⟩) 0 c] w fun e w' => e = .returned (.bool true) ∧ Below w.heap.size w w' := by
  have hmm := @run_makeMap Ybaz.prog
  have hmk : ∀ W : World, (Instr.makeSlice 83 (.int .i64 0) (.int .i64 0)).run Ybaz.prog W = .ok (.slice (some ⟨W.heap.size, 0, none⟩) 0 0) (W.alloc (.cells #[] 3)) := fun W => mkInts.made 0 0 (Nat.le_refl _) (by omega) (by decide) W
  go_enter Ybaz.func10, Ybaz.ntmps10
  go_upto_region 4 with fail
  obtain ⟨W1, hW1⟩ : ∃ z : World, z = ((w.alloc (.cells #[.slice none 0 0] 29)).alloc (.cells #[] 3)).alloc (.cells #[] 3) := ⟨_, rfl⟩
  have U1 : Hid (Upd [] w W1) := by show Upd _ _ _; rw [hW1]; exact ((Upd.alloc [] _ _).trans (Upd.alloc [] _ _) (by simp)).trans (Upd.alloc [] _ _) (by simp)
  have c1 : W1.cell? ⟨w.heap.size, 0, none⟩ = some (.slice none 0 0) := by rw [hW1]; exact (Upd.alloc [] _ _).cell ((Upd.alloc [] _ _).cell ((Blk.new w #[.slice none 0 0] 29).cell 0) (by simp)) (by simp)
  rw [← hW1]
  clear hW1 hmk
  go_wp2_with fail
  go_loopw [7, 32] (fun t7 t32 wr => t32 = .int .i64 0 ∧ t7 = .int .i64 0 ∧ wr = W1) (fun _ _ _ => 0)
  case atStart => exact ⟨rfl, rfl, rfl⟩
  case round =>
    obtain ⟨rfl, rfl, rfl⟩ := hrel
    go_wp2_with fail
    clear hmm
    obtain ⟨W2, hW2⟩ : ∃ z : World, z = wr.alloc (.map #[] 0) := ⟨_, rfl⟩
    have U2 : Hid (Upd [] w W2) := by show Upd _ _ _; rw [hW2]; exact U1.out.trans (Upd.alloc [] _ _) (by simp)
    rw [← hW2]
    clear hW2
    go_loopw [91] (fun t91 wz => t91 = .int .i64 0 ∧ wz = W2) (fun _ _ => 0)
    case atStart => exact ⟨rfl, rfl⟩
    case round =>
      obtain ⟨rfl, rfl⟩ := hrel
      go_wp2_with fail
      go_ret
      exact ⟨rfl, U2.out.below (Nat.le_refl _) (by simp)⟩
end Go.Proofs.YbulkctquGreatFmt

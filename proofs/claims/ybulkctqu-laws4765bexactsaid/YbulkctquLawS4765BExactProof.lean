/-
  'Rows.LawS4765BExactSaid' ('ordinant.LawS4765BExact'): the frame is the given shell (by program); the walks are ours.
-/
import Derived.Test.YbulkctquRows
import Derived.WalkKit
import Derived.ProofKit
import Derived.OpenShut
import Derived.ShutString
import Derived.ChangeOld
import Derived.Below
import Derived.BigQuiet
import Derived.Deep.QuietTactic
import Derived.WalkSpells
import Derived.Deep.WholeRow
import Derived.Laws.CopyOwn
namespace Go.Proofs.Ybulkctqu.lawS4765BExact
open Go.ChangeShapes Go.WideShapes Go.ChangeAt Go.RowKit
open Go.ChangeMaps (open_string shut_string)
set_option linter.unusedVariables false

theorem own : ownKnob Yba.prog.godebug = none := by kernel_rfl
theorem laidOut : laidOutB Yba.prog = true := by kernel_rfl

/-- WHAT THE WALK IS TOLD OF A SLICE OF INTEGERS THAT CAME IN: it is nil; or it leads to a row of 'cap' cells, the numbers 'zs' (the first 'len' are its elements, the rest its spare room), each fitting its kind. -/
def IsRow (k : IntKind) (w : World) (a : Option Addr) (len cap : Nat) (zs : List Int) : Prop :=
  (a = none ∧ len = 0 ∧ cap = 0 ∧ zs = []) ∨
  ∃ x, a = some x ∧ len ≤ cap ∧ cap ≤ maxLen ∧ zs.length = cap ∧ (∀ i, i < zs.length → w.cell? (x.add i) = some (.int k (zs.getD i 0))) ∧ ∀ n ∈ zs, (Lit.int k n).wf = true

/-! ### THE WALKS -/
theorem q22 (w : World) (a : Option Addr) (n c n' c' : Nat) : (binOp .eql 22 (.slice a n c) (.slice none n' c')).run Yba.prog w = .ok (.bool a.isNone) w := Lib.run_eql_slice_nil w _ _ a n c n' c' Yba.underlying22
theorem r22 (w : World) (a : Option Addr) (n c n' c' : Nat) : (binOp .neq 22 (.slice a n c) (.slice none n' c')).run Yba.prog w = .ok (.bool (!a.isNone)) w := run_neq_slice_nil_any w _ _ a n c n' c' Yba.underlying22
def regv (k : Int) : Int := if k = 0 then 0 else 1

theorem reg_any (k : Int) (w : World) : Calls Yba.prog 6 #[.int .u8 k] w fun e w' => e = .returned (.int .i64 (regv k)) ∧ w' = w := by
  unfold regv
  by_cases h : k = 0
  · subst h
    go_enter Yba.func6, Yba.ntmps6
    go_wp2
    go_ret
    exact ⟨rfl, rfl⟩
  · rw [if_neg h]
    go_enter Yba.func6, Yba.ntmps6
    go_wp2
    go_ret
    exact ⟨rfl, rfl⟩

theorem of_nil (c : Nat) (i : Int) (w : World) (hc : w.cell? ⟨c, 17, none⟩ = some (.slice none 0 0)) :
    Calls Yba.prog 5 #[.pointer (some ⟨c, 0, none⟩), .int .i64 i] w fun e w' => e = .returned (.int .i64 (-1)) ∧ w' = w := by
  have q := q22
  go_enter Yba.func5, Yba.ntmps5
  go_wp2
  go_ret
  exact ⟨rfl, rfl⟩

theorem of_some (c g n i : Nat) (x : Int) (w : World) (hn : n ≤ 1024) (hi : i < n) (hc : w.cell? ⟨c, 17, none⟩ = some (.slice (some ⟨g, 0, none⟩) n n)) (hx : w.cell? ⟨g, i, none⟩ = some (.int .i64 x)) :
    Calls Yba.prog 5 #[.pointer (some ⟨c, 0, none⟩), .int .i64 i] w fun e w' => e = .returned (.int .i64 x) ∧ w' = w := by
  have q := q22
  go_enter Yba.func5, Yba.ntmps5
  go_wp2
  go_ret
  exact ⟨rfl, rfl⟩

theorem at_nil (c : Nat) (i k : Int) (w : World) (hc : w.cell? ⟨c, 17, none⟩ = some (.slice none 0 0)) :
    Calls Yba.prog 4 #[.pointer (some ⟨c, 0, none⟩), .int .i64 i, .int .u8 k] w fun e w' => e = .returned (.int .i64 (regv k)) ∧ w' = w := by
  go_enter Yba.func4, Yba.ntmps4
  go_wp2_with (first | (go_at_call 5; refine (of_nil c i _ hc).mono ?_; rintro e w' ⟨rfl, rfl⟩) | (go_at_call 6; refine (reg_any k _).mono ?_; rintro e w' ⟨rfl, rfl⟩))
  go_ret
  exact ⟨rfl, rfl⟩

def clsv (x k : Int) : Int := if 0 ≤ x then x else regv k
theorem at_some (c g n i : Nat) (x k : Int) (w : World) (hn : n ≤ 1024) (hi : i < n) (hc : w.cell? ⟨c, 17, none⟩ = some (.slice (some ⟨g, 0, none⟩) n n)) (hx : w.cell? ⟨g, i, none⟩ = some (.int .i64 x)) :
    Calls Yba.prog 4 #[.pointer (some ⟨c, 0, none⟩), .int .i64 i, .int .u8 k] w fun e w' => e = .returned (.int .i64 (clsv x k)) ∧ w' = w := by
  unfold clsv
  by_cases h : 0 ≤ x
  · rw [if_pos h]
    go_enter Yba.func4, Yba.ntmps4
    go_wp2_with (first | (go_at_call 5; refine (of_some c g n i x _ hn hi hc hx).mono ?_; rintro e w' ⟨rfl, rfl⟩) | (go_at_call 6; refine (reg_any k _).mono ?_; rintro e w' ⟨rfl, rfl⟩))
    go_ret
    exact ⟨rfl, rfl⟩
  · rw [if_neg h]
    go_enter Yba.func4, Yba.ntmps4
    go_wp2_with (first | (go_at_call 5; refine (of_some c g n i x _ hn hi hc hx).mono ?_; rintro e w' ⟨rfl, rfl⟩) | (go_at_call 6; refine (reg_any k _).mono ?_; rintro e w' ⟨rfl, rfl⟩))
    go_ret
    exact ⟨rfl, rfl⟩

theorem law_big (a0 : Option Addr) (len0 cap0 : Nat) (a1 : Int) (a2 : Int) (w : World) (hb : 1024 < len0) (hm : len0 ≤ maxLen) :
    Calls Yba.prog 3 #[.slice a0 len0 cap0, .int .u64 a1, .int .u8 a2] w fun e w' => e = .returned (.bool true) ∧ Below w.heap.size w w' := by
  unfold maxLen at hm
  go_enter Yba.func3, Yba.ntmps3
  go_wp2
  go_ret
  exact ⟨rfl, Below.refl _ _⟩

theorem law_zero (a0 : Option Addr) (cap0 : Nat) (a1 : Int) (a2 : Int) (w : World) :
    Calls Yba.prog 3 #[.slice a0 0 cap0, .int .u64 a1, .int .u8 a2] w fun e w' => e = .returned (.bool true) ∧ Below w.heap.size w w' := by
  have q := q22
  have r := r22
  by_cases h : a2 = 0
  · subst h
    have e1 : regv 0 = 0 := rfl
    go_enter Yba.func3, Yba.ntmps3
    go_wp2_with (go_at_call 4; refine (at_nil _ _ _ _ (by simp)).mono ?_; rintro e w' ⟨rfl, rfl⟩)
    refine wp_loop_rounds 1 ?_; rw [rounds_succ]; go_wp2
    go_ret
    exact ⟨rfl, (Below.refl _ _).alloc (Nat.le_refl _) _⟩
  · have e1 : regv a2 = 1 := if_neg h
    go_enter Yba.func3, Yba.ntmps3
    go_wp2_with (go_at_call 4; refine (at_nil _ _ _ _ (by simp)).mono ?_; rintro e w' ⟨rfl, rfl⟩)
    refine wp_loop_rounds 1 ?_; rw [rounds_succ]; go_wp2
    go_ret
    exact ⟨rfl, (Below.refl _ _).alloc (Nat.le_refl _) _⟩

theorem Yba.info3 : (Yba.prog.info? 3).map (fun i => (i.zero, i.size, i.bytes)) = some (some (.int .i64 0), 1, 8) := by kernel_rfl

theorem made_copy (w : World) (b off n cap : Nat) (zs : List Int) (hn : n ≤ zs.length)
    (hcell : ∀ j, j < zs.length → w.cell? ⟨b, off + j, none⟩ = some (.int .i64 (zs.getD j 0))) (hpos : 0 < n) :
    ∃ w2, (∀ ty, (Builtin.copy_ #[22, 22] ty #[.slice (some ⟨w.heap.size, 0, none⟩) n n, .slice (some ⟨b, off, none⟩) n cap]).run Yba.prog (w.alloc (.cells (madeCells #[.int .i64 0] n) 3)) = .ok (goInt n) w2) ∧
      (∀ j, j < n → w2.cell? ⟨w.heap.size, j, none⟩ = some (.int .i64 (zs.getD j 0))) ∧ Below w.heap.size w w2 ∧ w2.heap.size = w.heap.size + 1 := by
  have hb : b < w.heap.size := World.block_lt_of_cell? _ _ (hcell 0 (by omega))
  have hg : (w.alloc (.cells (madeCells #[.int .i64 0] n) 3)).heap[w.heap.size]? = some (.cells (madeCells #[.int .i64 0] n) 3 (0, 0)) := by
    show (w.heap.push _)[w.heap.size]? = _
    simp
  have hl : ((zs.take n).map (Value.int .i64)).length = n := by simp; omega
  have hrun := fun ty => run_copy_row (P := Yba.prog) (w.alloc (.cells (madeCells #[.int .i64 0] n) 3)) 22 22 ty 3 w.heap.size 0 n n ⟨b, off, none⟩ n cap (madeCells #[.int .i64 0] n) 3 ((zs.take n).map (Value.int .i64)) Yba.underlying22 (by kernel_rfl) hg (by rw [hl]; exact (Nat.min_self n).symm)
    (by
      intro j v hj
      rw [Go.WideShapes.add_plain, World.cell?_alloc_past _ b _ hb]
      have hjn : j < n := by
        have := (List.getElem?_eq_some_iff.mp hj).1
        omega
      rw [hcell j (by omega), ← hj, List.getElem?_map, List.getElem?_take, if_pos hjn, List.getElem?_eq_getElem (by omega)]
      simp [List.getD_eq_getElem?_getD, List.getElem?_eq_getElem (show j < zs.length by omega)])
    (by rw [hl, size_madeCells]; omega) (ints_oneCell _ _)
  have e : ((madeCells #[.int .i64 0] n).toList.take 0 ++ (zs.take n).map (Value.int .i64) ++ (madeCells #[.int .i64 0] n).toList.drop (0 + ((zs.take n).map (Value.int .i64)).length)) = (zs.take n).map (Value.int .i64) := by
    rw [hl]
    simp [toList_madeCells_one]
  rw [e, hl, World.setRow_alloc_new] at hrun
  refine ⟨_, hrun, ?_, ?_, ?_⟩
  · intro j hj
    rw [World.cell?_alloc_new]
    simp [hj, List.getElem?_eq_getElem (show j < zs.length by omega)]
  · exact (Below.refl _ _).alloc (Nat.le_refl _) _
  · simp

theorem Below_drewN {B : Nat} {a w : World} (h : Below B a w) (n : Nat) : Below B a (w.drewN n) := h.trans ⟨rfl, rfl, rfl, Nat.le_refl _, fun _ _ => rfl⟩

theorem law_some (b off len0 cap0 : Nat) (z0 : List Int) (a1 : Int) (a2 : Int) (w : World) (hpos : 0 < len0) (hlen : len0 ≤ 1024) (hlc : len0 ≤ z0.length)
    (hcell : ∀ j, j < z0.length → w.cell? ⟨b, off + j, none⟩ = some (.int .i64 (z0.getD j 0))) (h1 : 0 ≤ a1) :
    Calls Yba.prog 3 #[.slice (some ⟨b, off, none⟩) len0 cap0, .int .u64 a1, .int .u8 a2] w fun e w' => e = .returned (.bool true) ∧ Below w.heap.size w w' := by
  have q := q22
  have r := r22
  obtain ⟨i0, hi, hz0, hz1, hz2⟩ := info_parts Yba.info3
  have hmk : ∀ W : World, (Instr.makeSlice 22 (.int .i64 (len0 : Int)) (.int .i64 (len0 : Int))).run Yba.prog W = .ok (.slice (some ⟨W.heap.size, 0, none⟩) len0 len0) (W.alloc (.cells (madeCells #[.int .i64 0] len0) 3)) := by
    intro W
    have h := run_make (P := Yba.prog) W 22 3 i0 (.int .i64 0) Yba.underlying22 hi hz0 .i64 .i64 (len0 : Int) (len0 : Int) (by omega) (by omega) (by rw [hz2]; omega) (by omega)
    rw [hz1] at h
    simpa [Value.cells] using h
  obtain ⟨w2, hcp, hrow, hbel, hsz⟩ := made_copy w b off len0 cap0 z0 hlc hcell hpos
  have hm0 : 0 ≤ a1 % (len0 : Int) := Int.emod_nonneg _ (by omega)
  have hm1 : a1 % (len0 : Int) < len0 := Int.emod_lt_of_pos _ (by omega)
  obtain ⟨i, hidx⟩ : ∃ i : Nat, a1 % (len0 : Int) = i := ⟨_, (Int.toNat_of_nonneg hm0).symm⟩
  have hi' : i < len0 := by omega
  clear hm0 hm1
  have hb : b < w.heap.size := World.block_lt_of_cell? _ _ (hcell 0 (by omega))
  have hcell2 : ∀ j, j < len0 → w2.cell? ⟨b, off + j, none⟩ = some (.int .i64 (z0.getD j 0)) := fun j hj => (hbel.cell (p := ⟨b, off + j, none⟩) hb).trans (hcell j (by omega))
  clear hcell
  have hg2 : w.heap.size < w2.heap.size := by omega
  have hb2 : b < w2.heap.size := by omega
  have Hsz : Hid (w2.heap.size = w.heap.size + 1) := hsz
  clear hsz
  rcases (show (clsv (z0[i]?.getD 0) a2 = z0[i]?.getD 0 ∧ 0 ≤ z0[i]?.getD 0) ∨ (clsv (z0[i]?.getD 0) a2 = 0 ∧ z0[i]?.getD 0 < 0 ∧ a2 = 0) ∨ (clsv (z0[i]?.getD 0) a2 = 1 ∧ z0[i]?.getD 0 < 0 ∧ a2 ≠ 0) by unfold clsv regv; split <;> (try split) <;> omega) with ⟨e1, e2⟩ | ⟨e1, e2, rfl⟩ | ⟨e1, e2, e3⟩
  all_goals
    go_enter Yba.func3, Yba.ntmps3
    go_wp2_with (go_at_call 4; refine (at_some _ w.heap.size len0 i (z0.getD i 0) _ _ hlen hi' (by simp) ((World.cell?_alloc_past _ _ _ hg2).trans (hrow i hi'))).mono ?_; rintro e w' ⟨rfl, rfl⟩)
  all_goals
    go_loopw [12] (fun t wr => ∃ k nq : Nat, k ≤ len0 ∧ t = .int .i64 k ∧ wr = (w2.alloc (.cells #[Value.bool false, Value.slice none 0 0, Value.slice none 0 0, Value.map none, Value.map none, Value.map none,
      Value.map none, Value.slice none 0 0, Value.slice none 0 0, Value.slice none 0 0, Value.slice none 0 0, Value.slice none 0 0, Value.slice none 0 0, Value.slice none 0 0, Value.slice none 0 0, Value.slice none 0 0,
      Value.slice none 0 0, Value.slice (some ⟨w.heap.size, 0, none⟩) len0 len0, Value.slice none 0 0, Value.bool false, Value.bool false, Value.slice none 0 0, Value.slice none 0 0] 41)).drewN nq) (fun i _ => len0 - (intOf i).toNat)
    case atStart => exact ⟨0, 0, by omega, rfl, rfl⟩
    case round =>
      obtain ⟨k, nq, hk, rfl, rfl⟩ := hrel
      by_cases hlt : k < len0
      · have c1 := hcell2 k hlt
        have c2 := hrow k hlt
        clear hcell2 hrow
        go_wp2
        go_quiet (fail)
        go_wp2
        go_roundw
        case rel => exact ⟨k + 1, _, by omega, by go_num, rfl⟩
        case measure => simp [intOf]; omega
      · go_wp2
        go_ret
        exact ⟨rfl, Below_drewN (hbel.alloc (by omega) _) _⟩
theorem walk (a0 : Option Addr) (len0 cap0 : Nat) (z0 : List Int) (a1 : Int) (a2 : Int) (w : World) (w0 : IsRow .i64 w a0 len0 cap0 z0) (w1 : (Lit.int .u64 a1).wf = true) (w2 : (Lit.int .u8 a2).wf = true) :
    Calls Yba.prog 3 #[.slice a0 len0 cap0, .int .u64 a1, .int .u8 a2] w fun e w' => e = .returned (.bool true) ∧ Below w.heap.size w w' := by
  have hb1 : 0 ≤ a1 ∧ a1 < 18446744073709551616 := by
    simp [Lit.wf, IntKind.min, IntKind.max, IntKind.signed, IntKind.bits] at w1
    exact ⟨by omega, by omega⟩
  rcases w0 with ⟨rfl, rfl, rfl, rfl⟩ | ⟨x, rfl, hl, hm, hz, hc, hw⟩
  · exact law_zero _ _ _ _ _
  · by_cases h0 : len0 = 0
    · subst h0
      exact law_zero _ _ _ _ _
    · by_cases hbig : 1024 < len0
      · exact law_big _ _ _ _ _ _ hbig (by omega)
      · obtain ⟨b, off, rfl, hcell⟩ := ints_at hc (by omega)
        exact law_some b off len0 cap0 z0 a1 a2 w (by omega) (by omega) (by omega) hcell hb1.1

/-! ### THE ROW's STEP: WRITTEN OUT: LEAVE IT -/
set_option maxRecDepth 100000 in
theorem lifted (os : Os) (started : os.Started) (H : Type) (enc : TypeId × Value → H) :
    ReturnsInHanded {} Yba.checked os 3 .any (Rows.lawS4765BExactSpec.pre6 enc Yba.prog Yba.f3 Rows.lawS4765BExactRow.domain false) (Rows.lawS4765BExactSpec.post enc Yba.prog Yba.f3 false true false false) := by
  refine returnsInHanded_of_change (C := Yba.checked) own started (by kernel_rfl) Yba.func3
    (ChangeSpec.witness6 (enc := enc) (C := Yba.checked) false ⟨#[], #[.slice none 0 0, .int .u64 0, .int .u8 0], []⟩ 8 (by kernel_rfl) (by kernel_rfl) (by kernel_rfl) (by kernel_rfl)) ?_
  intro W base args ds gs before hval0 hW hcnd _
  have hval : ∀ (j : Nat) t v, Yba.f3.params[j]? = some t → args[j]? = some v → Value.okWide Yba.prog W .any base t v := hval0
  have hW' := hW
  obtain ⟨p, q, hA0, hV, rfl, hfz, hnd⟩ := hW
  have hA : DataW.TrodAll enc Yba.prog W 0 (fun _ => true) true Yba.f3.params.toList args.toList ds p := hA0
  rw [Yba.params3] at hA hval
  obtain ⟨v0, vs0, d0, ds0, p0, q0, hargs, rfl, rfl, h0, r0⟩ := trodAll_cons hA
  obtain ⟨v1, vs1, d1, ds1, p1, q1, rfl, rfl, rfl, h1, r1⟩ := trodAll_cons r0
  obtain ⟨v2, vs2, d2, ds2, p2, q2, rfl, rfl, rfl, h2, r2⟩ := trodAll_cons r1
  obtain ⟨rfl, rfl, rfl⟩ := trodAll_nil r2
  obtain rfl : args = #[v0, v1, v2] := by cases args; simp_all
  obtain ⟨rfl, rfl⟩ := trodVars_none hV
  obtain ⟨a0, len0, cap0, rfl⟩ := okWide_slice Yba.underlying22 (hval 0 22 v0 rfl rfl)
  have k0 := h0
  have lt0 : ∀ x ∈ p0, x.block < W.heap.size := by obtain ⟨m, hm⟩ := k0; exact DataW.trod_lt m _ _ _ hm
  obtain ⟨z0, w0⟩ : ∃ zs, IsRow .i64 W a0 len0 cap0 zs := by
    obtain ⟨fuel, hf⟩ := h0
    rcases open_ints Yba.underlying22 Yba.underlying3 (by kernel_rfl) hf with ⟨hcs, _⟩ | ⟨x, l, c, zs, hcs, _, hl, hm, hz, _, hcell, hwz⟩
    · simp [Value.cells] at hcs
      obtain ⟨rfl, rfl, rfl⟩ := hcs
      exact ⟨[], .inl ⟨rfl, rfl, rfl, rfl⟩⟩
    · simp [Value.cells] at hcs
      obtain ⟨rfl, rfl, rfl⟩ := hcs
      exact ⟨zs, .inr ⟨_, rfl, hl, hm, by simpa using hz, hcell, hwz⟩⟩
  obtain ⟨a1, rfl, rfl, rfl, w1⟩ := open_int Yba.underlying23 (hval 1 23 v1 rfl rfl) h1
  obtain ⟨a2, rfl, rfl, rfl, w2⟩ := open_int Yba.underlying5 (hval 2 5 v2 rfl rfl) h2
  clear hA0 hval0
  refine (walk a0 len0 cap0 z0 a1 a2 W w0 w1 w2).mono fun e W' ⟨he, bel⟩ => ?_
  subst he
  exact ⟨_, rfl, _, _, _, [], _, [], hW', trodAll_mk1 (shut_bool Yba.underlying4 _), (trodAll_cons_mk (Below.trod laidOut (by kernel_rfl) (of_decide_eq_true (by kernel_rfl)) k0 bel lt0) (trodAll_cons_mk (shut_int Yba.underlying23 w1) (trodAll_cons_mk (shut_int Yba.underlying5 w2) trodAll_mk0))), rfl, bel.frame _, fun h => by cases h⟩

theorem over : Rows.lawS4765BExactRow.holds Yba.pinned (OpenSpec.ofChange Rows.lawS4765BExactSpec) :=
  OpenClaim.holds_of_wide 3 Yba.f3 rfl rfl rfl rfl rfl rfl rfl ⟨rfl, rfl, rfl, rfl, rfl⟩ rfl rfl rfl rfl rfl (by kernel_rfl) Yba.func3 (by kernel_rfl)
    (of_decide_eq_true (by kernel_rfl)) (by unfold Func.isWrapper; first | (rw [if_pos (by decide +kernel)]; kernel_rfl) | (rw [if_neg (by decide +kernel)]; exact ⟨rfl, rfl⟩))
    (fun os started H enc _ => lifted os started H enc)

/-- ████ THE STATEMENT ████ -/
theorem proved : Rows.LawS4765BExactSaid := over
#print axioms proved
end Go.Proofs.Ybulkctqu.lawS4765BExact

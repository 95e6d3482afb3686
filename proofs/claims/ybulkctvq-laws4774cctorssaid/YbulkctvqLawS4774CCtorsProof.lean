/-
  'Rows.LawS4774CCtorsSaid': the frame is the given shell (by program); the walks are ours.
-/
import Derived.Test.YbulkctvqRows
import Derived.WalkKit
import Derived.ProofKit
import Derived.OpenShut
import Derived.ShutString
import Derived.WalkSpells
import Derived.WalkLawsBesides
namespace Go.Proofs.Ybulkctvq.lawS4774CCtors
open Go.ChangeShapes Go.WideShapes Go.ChangeAt Go.RowKit
open Go.ChangeMaps (open_string shut_string)
set_option linter.unusedVariables false      -- a walk need not use every 'w<i>' (that an integer argument fits its kind)

theorem own : ownKnob Yba.prog.godebug = none := by kernel_rfl

/-! ### THE WALKS -/
theorem as_yes (b : Nat) (n : Int) (w : World) (h0 : w.cell? ⟨b, 0, none⟩ = some (.int .u8 6)) (h1 : w.cell? ⟨b, 1, none⟩ = some (.int .i64 n)) :
    Calls Yba.prog 5 #[.pointer (some ⟨b, 0, none⟩)] w fun e w' => e = .returned (.tuple #[.bool (n == 1), .bool true]) ∧ w' = w := by
  go_enter Yba.func5, Yba.ntmps5
  go_wp2
  go_ret2
  exact ⟨rfl, rfl⟩
theorem as_no (b : Nat) (t : Int) (w : World) (h0 : w.cell? ⟨b, 0, none⟩ = some (.int .u8 t)) (h1 : (t != 6) = true) :
    Calls Yba.prog 5 #[.pointer (some ⟨b, 0, none⟩)] w fun e w' => e = .returned (.tuple #[.bool false, .bool false]) ∧ w' = w := by
  go_enter Yba.func5, Yba.ntmps5
  go_wp2
  go_ret2
  exact ⟨rfl, rfl⟩

theorem fbits (n : Nat) (w : World) : (callFunc 11 #[.float .f64 n]).run Yba.prog w = .ok (.value (.int .u64 n)) w := by kernel_rfl
theorem ffrom (n : Int) (w : World) : (callFunc 9 #[.int .u64 n]).run Yba.prog w = .ok (.value (.float .f64 n.toNat)) w := by kernel_rfl

def bv (b : Bool) : Int := if b then 1 else 0
/-- Boolean. -/
theorem boolean_any (b : Bool) (w : World) : Calls Yba.prog 6 #[.bool b] w fun e w' =>
    e = .returned (.agg #[.int .u8 6, .int .i64 (bv b), .string ⟨#[]⟩, .slice none 0 0]) ∧ ∃ c1 c2 : Array Value, w' = (w.alloc (.cells c1 25)).alloc (.cells c2 25) := by
  cases b
  · go_enter Yba.func6, Yba.ntmps6
    go_wp2
    simp [bodyPost, results, Yba.results6, go_sem]
    exact ⟨rfl, _, _, rfl⟩
  · go_enter Yba.func6, Yba.ntmps6
    go_wp2
    simp [bodyPost, results, Yba.results6, go_sem]
    exact ⟨rfl, _, _, rfl⟩
/-- Integer. -/
theorem integer_any (n : Int) (w : World) : Calls Yba.prog 7 #[.int .i64 n] w fun e w' =>
    e = .returned (.agg #[.int .u8 1, .int .i64 n, .string ⟨#[]⟩, .slice none 0 0]) ∧ ∃ c1 : Array Value, w' = (w.alloc (.cells c1 25)) := by
  go_enter Yba.func7, Yba.ntmps7
  go_wp2
  simp [bodyPost, results, Yba.results7, go_sem]
  exact ⟨_, rfl⟩
/-- String. -/
theorem string_any (s : ByteArray) (w : World) : Calls Yba.prog 10 #[.string s] w fun e w' =>
    e = .returned (.agg #[.int .u8 3, .int .i64 0, .string s, .slice none 0 0]) ∧ ∃ c1 : Array Value, w' = (w.alloc (.cells c1 25)) := by
  go_enter Yba.func10, Yba.ntmps10
  go_wp2
  simp [bodyPost, results, Yba.results10, go_sem]
  exact ⟨_, rfl⟩
/-- Decimal. -/
theorem decimal_any (n : Nat) (w : World) : Calls Yba.prog 8 #[.float .f64 n] w fun e w' =>
    (∃ m, e = .returned (.agg #[.int .u8 2, .int .i64 m, .string ⟨#[]⟩, .slice none 0 0])) ∧ ∃ c1 : Array Value, w' = (w.alloc (.cells c1 25)) := by
  have h := fbits
  go_enter Yba.func8, Yba.ntmps8
  go_wp2
  simp [bodyPost, results, Yba.results8, go_sem]
  exact ⟨_, rfl⟩

set_option maxHeartbeats 400000 in
theorem walk_f (a1 : Int) (a2 : ByteArray) (w : World) :
    Calls Yba.prog 4 #[.bool false, .int .i64 a1, .string a2] w fun e w' => e = .returned (.bool true) ∧ Grown w w' := by
  have hf := ffrom
  have e1 : ((bv false) == 1) = false := rfl
  go_enter Yba.func4, Yba.ntmps4
  go_wp2_with (first
    | (go_at_call 6; refine (boolean_any _ _).mono ?_; rintro e w' ⟨rfl, c1, c2, rfl⟩)
    | (go_at_call 7; refine (integer_any _ _).mono ?_; rintro e w' ⟨rfl, c1, rfl⟩)
    | (go_at_call 8; refine (decimal_any _ _).mono ?_; rintro e w' ⟨⟨m, rfl⟩, c1, rfl⟩)
    | (go_at_call 10; refine (string_any _ _).mono ?_; rintro e w' ⟨rfl, c1, rfl⟩)
    | go_in)
  go_ret
  exact ⟨rfl, by repeat (first | exact Grown.refl _ | apply Grown.drew | apply Grown.alloc)⟩
set_option maxHeartbeats 400000 in
theorem walk_t (a1 : Int) (a2 : ByteArray) (w : World) :
    Calls Yba.prog 4 #[.bool true, .int .i64 a1, .string a2] w fun e w' => e = .returned (.bool true) ∧ Grown w w' := by
  have hf := ffrom
  have e1 : ((bv true) == 1) = true := rfl
  go_enter Yba.func4, Yba.ntmps4
  go_wp2_with (first
    | (go_at_call 6; refine (boolean_any _ _).mono ?_; rintro e w' ⟨rfl, c1, c2, rfl⟩)
    | (go_at_call 7; refine (integer_any _ _).mono ?_; rintro e w' ⟨rfl, c1, rfl⟩)
    | (go_at_call 8; refine (decimal_any _ _).mono ?_; rintro e w' ⟨⟨m, rfl⟩, c1, rfl⟩)
    | (go_at_call 10; refine (string_any _ _).mono ?_; rintro e w' ⟨rfl, c1, rfl⟩)
    | go_in)
  go_ret
  exact ⟨rfl, by repeat (first | exact Grown.refl _ | apply Grown.drew | apply Grown.alloc)⟩
theorem walk (a0 : Bool) (a1 : Int) (a2 : ByteArray) (w1 : (Lit.int .i64 a1).wf = true) (w2 : a2.size ≤ maxLen) (w : World) :
    Calls Yba.prog 4 #[.bool a0, .int .i64 a1, .string a2] w fun e w' => e = .returned (.bool true) ∧ Grown w w' := by
  cases a0
  · exact walk_f a1 a2 w
  · exact walk_t a1 a2 w

/-! ### THE ROW's STEP: WRITTEN OUT: LEAVE IT -/
set_option maxRecDepth 100000 in
theorem lifted (os : Os) (started : os.Started) (H : Type) (enc : TypeId × Value → H) :
    ReturnsInHanded {} Yba.checked os 4 .any (Rows.lawS4774CCtorsSpec.pre6 enc Yba.prog Yba.f4 Rows.lawS4774CCtorsRow.domain false) (Rows.lawS4774CCtorsSpec.post enc Yba.prog Yba.f4 false true false false) := by
  refine returnsInHanded_of_change (C := Yba.checked) own started (by kernel_rfl) Yba.func4
    (ChangeSpec.witness6 (enc := enc) (C := Yba.checked) false ⟨#[], #[.bool false, .int .i64 0, .string ByteArray.empty], []⟩ 8 (by kernel_rfl) (by kernel_rfl) (by kernel_rfl) (by kernel_rfl)) ?_
  intro W base args ds gs before hval0 hW hcnd _
  have hval : ∀ (j : Nat) t v, Yba.f4.params[j]? = some t → args[j]? = some v → Value.okWide Yba.prog W .any base t v := hval0
  have hW' := hW
  obtain ⟨p, q, hA0, hV, rfl, hfz, hnd⟩ := hW
  have hA : DataW.TrodAll enc Yba.prog W 0 (fun _ => true) true Yba.f4.params.toList args.toList ds p := hA0
  rw [Yba.params4] at hA hval
  obtain ⟨v0, vs0, d0, ds0, p0, q0, hargs, rfl, rfl, h0, r0⟩ := trodAll_cons hA
  obtain ⟨v1, vs1, d1, ds1, p1, q1, rfl, rfl, rfl, h1, r1⟩ := trodAll_cons r0
  obtain ⟨v2, vs2, d2, ds2, p2, q2, rfl, rfl, rfl, h2, r2⟩ := trodAll_cons r1
  obtain ⟨rfl, rfl, rfl⟩ := trodAll_nil r2
  obtain rfl : args = #[v0, v1, v2] := by cases args; simp_all
  obtain ⟨rfl, rfl⟩ := trodVars_none hV
  obtain ⟨a0, rfl, rfl, rfl⟩ := open_bool Yba.underlying4 (hval 0 4 v0 rfl rfl) h0
  obtain ⟨a1, rfl, rfl, rfl, w1⟩ := open_int Yba.underlying2 (hval 1 2 v1 rfl rfl) h1
  obtain ⟨a2, rfl, rfl, rfl, w2⟩ := open_string Yba.underlying9 (hval 2 9 v2 rfl rfl) h2
  clear hA0 hval0
  simp only [List.append_nil] at hW'
  refine (walk a0 a1 a2 w1 w2 W).mono fun e W' ⟨he, hg⟩ => ?_
  subst he
  exact ⟨_, rfl, post_of_same (pa := []) (pv := []) hW' (fun _ _ _ => (trodAll_cons_mk (shut_bool Yba.underlying4 _) trodAll_mk0)) (fun sp _ => (trodAll_cons_mk (shut_bool Yba.underlying4 _) (trodAll_cons_mk (shut_int Yba.underlying2 w1) (trodAll_cons_mk (shut_string Yba.underlying9 w2) trodAll_mk0)))) (fun _ _ => rfl) rfl
    (hg.frame _) hg.2.1 (ok_one (by kernel_rfl) rfl (okWide_bool_mk Yba.underlying4 _))⟩

theorem over : Rows.lawS4774CCtorsRow.holds Yba.pinned (OpenSpec.ofChange Rows.lawS4774CCtorsSpec) :=
  OpenClaim.holds_of_wide 4 Yba.f4 rfl rfl rfl rfl rfl rfl rfl ⟨rfl, rfl, rfl, rfl, rfl⟩ rfl rfl rfl rfl rfl (by kernel_rfl) Yba.func4 (by kernel_rfl)
    (of_decide_eq_true (by kernel_rfl)) (by unfold Func.isWrapper; first | (rw [if_pos (by decide +kernel)]; kernel_rfl) | (rw [if_neg (by decide +kernel)]; exact ⟨rfl, rfl⟩))
    (fun os started H enc _ => lifted os started H enc)

/-- ████ THE STATEMENT ████ -/
theorem proved : Rows.LawS4774CCtorsSaid :=
  over
#print axioms proved
end Go.Proofs.Ybulkctvq.lawS4774CCtors

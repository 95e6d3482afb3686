/-
  tangle: open.
-/
import Derived.Test.YbulkctquGreatFmtTgB
namespace Go.Proofs.YbulkctquGreatFmt
open Go.ChangeShapes Go.WideShapes Go.ChangeAt Go.RowKit Go.Ord
set_option linter.unusedVariables false
attribute [local go_sem ↓] Go.wp_at_zero Go.wp_at_succ

set_option maxRecDepth 100000 in
/-- open's closure. -/
theorem seen136 (W : World) (bx d bE n cE t : Nat) (z st : Int) (h1 : W.cell? ⟨bx, 0, none⟩ = some (.pointer (some ⟨d, 0, none⟩))) (h2 : W.cell? ⟨d, 4, none⟩ = some (.slice (some ⟨bE, 0, none⟩) n cE)) (h3 : W.cell? ⟨d, 5, none⟩ = some (.int .i64 st)) (h4 : W.cell? ⟨bE, t, none⟩ = some (.int .i64 z)) (ht : t < n) :
    Calls Ybaz.prog 136 #[.int .i64 t, .pointer (some ⟨bx, 0, none⟩)] W fun e w' => e = .returned (.bool (z == st)) ∧ ∃ q, w' = W.drewN q := by
  go_enter Ybaz.func136, Ybaz.ntmps136
  go_wp2_with fail
  go_big_quiet (fail)
  go_wp2_with fail
  go_ret
  exact ⟨rfl, _, rfl⟩
set_option maxRecDepth 100000 in
/-- slices.IndexFunc with a closure that only reads. -/
theorem idx41 (w : World) (a : Option Addr) (c : Nat) (xs : List Nat) (hl : xs.length < 1000000) (p : Nat → Bool) (cb : Array Value) (hc : ∀ (j x : Nat), xs[j]? = some x → ∃ b, a = some ⟨b, 0, none⟩ ∧ w.cell? ⟨b, j, none⟩ = some (.int .i64 x))
    (hcm : ∀ q x, x ∈ xs → Calls Ybaz.prog 136 (#[.int .i64 x] ++ cb) (w.drewN q) fun e w' => e = .returned (.bool (p x)) ∧ ∃ r, w' = (w.drewN q).drewN r) :
    Calls Ybaz.prog 41 #[.slice a xs.length c, .func (.func 136) #[] cb] w fun e w' => ∃ i : Int, e = .returned (.int .i64 i) ∧ ((i = -1 ∧ ∀ x ∈ xs, p x = false) ∨ ∃ (k x : Nat), i = (k : Int) ∧ xs[k]? = some x ∧ p x = true ∧ ∀ (j y : Nat), j < k → xs[j]? = some y → p y = false) ∧ ∃ q, w' = w.drewN q := by
  have HC : Hid (∀ (j x : Nat), xs[j]? = some x → ∃ b, a = some ⟨b, 0, none⟩ ∧ w.cell? ⟨b, j, none⟩ = some (.int .i64 x)) := hc
  have HM : Hid (∀ q x, x ∈ xs → Calls Ybaz.prog 136 (#[.int .i64 x] ++ cb) (w.drewN q) fun e w' => e = .returned (.bool (p x)) ∧ ∃ r, w' = (w.drewN q).drewN r) := hcm
  clear hc hcm
  go_enter Ybaz.func41, Ybaz.ntmps41
  go_wp2_with fail
  go_loopw [8] (fun t8 wr => ∃ i q : Nat, i ≤ xs.length ∧ t8 = .int .i64 i ∧ (∀ (j y : Nat), j < i → xs[j]? = some y → p y = false) ∧ wr = w.drewN q) (fun u _ => xs.length - (intOf u).toNat)
  case atStart => exact ⟨0, 0, by omega, rfl, fun j y h => by omega, rfl⟩
  case round =>
    obtain ⟨i, q, hi, rfl, hn, rfl⟩ := hrel
    have HN : Hid (∀ (j y : Nat), j < i → xs[j]? = some y → p y = false) := hn
    clear hn
    by_cases hlt : i < xs.length
    · obtain ⟨x, hx⟩ := has_at xs hlt
      obtain ⟨b, rfl, cx⟩ := HC.out i x hx
      have cz : (w.drewN q).cell? ⟨b, i, none⟩ = some (.int .i64 x) := cx
      have hK : Hid (Calls Ybaz.prog 136 (#[.int .i64 x] ++ cb) (w.drewN q) fun e w' => e = .returned (.bool (p x)) ∧ ∃ r, w' = (w.drewN q).drewN r) := HM.out q x (List.mem_of_getElem? hx)
      have HX : Hid (xs[i]? = some x) := hx
      clear hx cx
      go_wp2_with fail
      refine Calls.mono hK.out ?_
      rintro e w1 ⟨rfl, r, rfl⟩
      rw [World.drewN_drewN]
      by_cases hp : p x = true
      · rw [hp]
        go_wp2_with fail
        go_ret
        exact ⟨(i : Int), rfl, .inr ⟨i, x, rfl, HX.out, hp, HN.out⟩, _, rfl⟩
      · have hp2 : p x = false := by simpa using hp
        rw [hp2]
        go_wp2_with fail
        refine ⟨⟨i + 1, q + r, by omega, by go_num, fun j y hj hy => ?_, rfl⟩, by simp [intOf] <;> omega⟩
        by_cases e : j = i
        · subst e; rw [HX.out] at hy; cases hy; exact hp2
        · exact HN.out j y (by omega) hy
    · have hi2 : i = xs.length := by omega
      go_wp2_with fail
      go_ret
      refine ⟨-1, rfl, .inl ⟨rfl, fun x hx => ?_⟩, _, rfl⟩
      obtain ⟨j, hj⟩ := List.getElem?_of_mem hx
      exact HN.out j x (by have := (List.getElem?_eq_some_iff.mp hj).1; omega) hj
set_option maxRecDepth 100000 in
theorem contains135 (w : World) (a : Option Addr) (c : Nat) (xs : List Nat) (hl : xs.length < 1000000) (p : Nat → Bool) (cb : Array Value) (hc : ∀ (j x : Nat), xs[j]? = some x → ∃ b, a = some ⟨b, 0, none⟩ ∧ w.cell? ⟨b, j, none⟩ = some (.int .i64 x))
    (hcm : ∀ q x, x ∈ xs → Calls Ybaz.prog 136 (#[.int .i64 x] ++ cb) (w.drewN q) fun e w' => e = .returned (.bool (p x)) ∧ ∃ r, w' = (w.drewN q).drewN r) :
    Calls Ybaz.prog 135 #[.slice a xs.length c, .func (.func 136) #[] cb] w fun e w' => e = .returned (.bool (xs.any p)) ∧ ∃ q, w' = w.drewN q := by
  have K : Hid _ := idx41 w a c xs hl p cb hc hcm
  clear hc hcm
  go_enter Ybaz.func135, Ybaz.ntmps135
  go_wp2_with fail
  refine Calls.mono K.out ?_
  rintro e w1 ⟨i, rfl, h1, q, rfl⟩
  rcases h1 with ⟨rfl, h2⟩ | ⟨k, x, rfl, h2, h3, h4⟩
  · go_wp2_with fail
    go_ret
    refine ⟨?_, _, rfl⟩
    have : xs.any p = false := by rw [List.any_eq_false]; intro x hx; simp [h2 x hx]
    rw [this]; rfl
  · have hk : (0 : Int) ≤ (k : Int) := by omega
    go_wp2_with fail
    go_ret
    refine ⟨?_, _, rfl⟩
    have : xs.any p = true := List.any_eq_true.mpr ⟨x, List.mem_of_getElem? h2, h3⟩
    rw [this]; rfl
end Go.Proofs.YbulkctquGreatFmt

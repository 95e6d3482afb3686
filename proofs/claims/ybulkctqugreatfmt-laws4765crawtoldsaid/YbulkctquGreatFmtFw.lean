/-
  firstWrite.
-/
import Derived.Test.YbulkctquGreatFmtVersP
namespace Go.Proofs.YbulkctquGreatFmt
open Go.ChangeShapes Go.WideShapes Go.ChangeAt Go.RowKit Go.Ord
set_option linter.unusedVariables false

def isW (y : Nat) (v : Ev) : Bool := decide (v.k = 1) && decide (v.x = y)
set_option maxRecDepth 100000 in
theorem clo66 (W : World) (bx y : Nat) (v : Ev) (h1 : W.cell? ⟨bx, 0, none⟩ = some (.int .u64 y)) (hk : v.k < 256) (hx : v.x < 1000) (hy : y < 1000) :
    Calls Ybaz.prog 66 #[.agg #[.int .u8 v.k, .int .u64 v.x, .int .u64 v.v, .bool v.i], .pointer (some ⟨bx, 0, none⟩)] W fun e w' => e = .returned (.bool (isW y v)) ∧ Upd [] W w' := by
  have hbx := World.block_lt_of_cell? _ _ h1
  go_enter Ybaz.func66, Ybaz.ntmps66
  by_cases c1 : v.k = 1
  · by_cases c2 : v.x = y
    · have e1 : ((v.k : Nat) : Int) = 1 := by omega
      have e2 : ((v.x : Nat) : Int) = (y : Int) := by omega
      go_wp2_with fail
      go_ret
      exact ⟨by simp [isW, c1, c2], Upd.alloc _ _ _⟩
    · have e1 : ((v.k : Nat) : Int) = 1 := by omega
      have e2 : ¬ ((v.x : Nat) : Int) = (y : Int) := by omega
      go_wp2_with fail
      go_ret
      exact ⟨by simp [isW, c1, c2]; exact e2, Upd.alloc _ _ _⟩
  · have e1 : ¬ ((v.k : Nat) : Int) = 1 := by omega
    go_wp2_with fail
    go_ret
    exact ⟨by simp [isW, c1], Upd.alloc _ _ _⟩
set_option maxRecDepth 100000 in
/-- slices.IndexFunc over events. -/
theorem idx65 (w : World) (o : Option Addr) (b c : Nat) (xs : List Ev) (hl : xs.length < 1000) (y bx : Nat) (h1 : w.cell? ⟨bx, 0, none⟩ = some (.int .u64 y)) (hy : y < 1000) (ho : xs ≠ [] → o = some ⟨b, 0, none⟩) (hv : ∀ v ∈ xs, v.k < 256 ∧ v.x < 1000)
    (hc : ∀ (e : Nat) (v : Ev) (j : Nat) (u : Value), xs[e]? = some v → v.cells[j]? = some u → w.cell? ⟨b, e * 4 + j, none⟩ = some u) :
    Calls Ybaz.prog 65 #[.slice o xs.length c, .func (.func 66) #[] #[.pointer (some ⟨bx, 0, none⟩)]] w fun e w' => ∃ i : Int, e = .returned (.int .i64 i) ∧ ((i = -1 ∧ ∀ v ∈ xs, isW y v = false) ∨ ∃ (k : Nat) (v : Ev), i = (k : Int) ∧ xs[k]? = some v ∧ isW y v = true) ∧ Upd [] w w' := by
  have HC : Hid (∀ (e : Nat) (v : Ev) (j : Nat) (u : Value), xs[e]? = some v → v.cells[j]? = some u → w.cell? ⟨b, e * 4 + j, none⟩ = some u) := hc
  have HO : Hid (xs ≠ [] → o = some ⟨b, 0, none⟩) := ho
  have HV : Hid (∀ v ∈ xs, v.k < 256 ∧ v.x < 1000) := hv
  have H1 : Hid (w.cell? ⟨bx, 0, none⟩ = some (.int .u64 y)) := h1
  clear hc ho hv h1
  go_enter Ybaz.func65, Ybaz.ntmps65
  go_wp2_with fail
  go_loopw [8] (fun t8 wr => ∃ i : Nat, i ≤ xs.length ∧ t8 = .int .i64 i ∧ (∀ (j : Nat) (v : Ev), j < i → xs[j]? = some v → isW y v = false) ∧ Upd [] w wr) (fun u _ => xs.length - (intOf u).toNat)
  case atStart => exact ⟨0, by omega, rfl, fun j y h => by omega, Upd.refl _ _⟩
  case round =>
    obtain ⟨i, hi, rfl, hn, hu⟩ := hrel
    have HN : Hid (∀ (j : Nat) (v : Ev), j < i → xs[j]? = some v → isW y v = false) := hn
    have UH : Hid (Upd [] w wr) := hu
    by_cases hlt : i < xs.length
    · as_aux_lemma =>
      obtain ⟨v, hx⟩ := has_at xs hlt
      have hob := HO.out (by intro q; rw [q] at hlt; simp at hlt)
      subst hob
      have a0 := hu.cell (HC.out i v 0 _ hx rfl) (by simp)
      have a1 := hu.cell (HC.out i v 1 _ hx rfl) (by simp)
      have a2 := hu.cell (HC.out i v 2 _ hx rfl) (by simp)
      have a3 := hu.cell (HC.out i v 3 _ hx rfl) (by simp)
      simp only [Nat.add_zero] at a0
      have KC : Hid _ := clo66 wr bx y v (hu.cell H1.out (by simp)) (HV.out v (List.mem_of_getElem? hx)).1 (HV.out v (List.mem_of_getElem? hx)).2 hy
      have HX : Hid (xs[i]? = some v) := hx
      clear hn hu hx
      go_wp2_with fail
      refine Calls.mono KC.out ?_
      rintro e w1 ⟨rfl, U1⟩
      have U2 : Hid (Upd [] w w1) := UH.out.trans U1 (by simp)
      clear U1 a0 a1 a2 a3
      by_cases hp : isW y v = true
      · rw [hp]
        go_wp2_with fail
        go_ret
        exact ⟨(i : Int), rfl, .inr ⟨i, v, rfl, HX.out, hp⟩, U2.out⟩
      · have hp2 : isW y v = false := by simpa using hp
        rw [hp2]
        go_wp2_with fail
        refine ⟨⟨i + 1, by omega, by go_num, fun j v' hj hy => ?_, U2.out⟩, by simp [intOf] <;> omega⟩
        by_cases e : j = i
        · subst e; rw [HX.out] at hy; cases hy; exact hp2
        · exact HN.out j v' (by omega) hy
    · as_aux_lemma =>
      have hi2 : i = xs.length := by omega
      clear hn hu
      go_wp2_with fail
      go_ret
      refine ⟨-1, rfl, .inl ⟨rfl, fun x hx => ?_⟩, UH.out⟩
      obtain ⟨j, hj⟩ := List.getElem?_of_mem hx
      exact HN.out j x (by have := (List.getElem?_eq_some_iff.mp hj).1; omega) hj
set_option maxRecDepth 100000 in
theorem first43 (w : World) (o : Option Addr) (b c : Nat) (xs : List Ev) (hl : xs.length < 1000) (y : Nat) (hy : y < 1000) (ho : xs ≠ [] → o = some ⟨b, 0, none⟩) (hv : ∀ v ∈ xs, v.k < 256 ∧ v.x < 1000)
    (hc : ∀ (e : Nat) (v : Ev) (j : Nat) (u : Value), xs[e]? = some v → v.cells[j]? = some u → w.cell? ⟨b, e * 4 + j, none⟩ = some u) :
    Calls Ybaz.prog 43 #[.slice o xs.length c, .int .u64 y] w fun e w' => ∃ i : Int, e = .returned (.int .i64 i) ∧ ((i = -1 ∧ ∀ v ∈ xs, isW y v = false) ∨ ∃ (k : Nat) (v : Ev), i = (k : Int) ∧ xs[k]? = some v ∧ isW y v = true) ∧ Upd [] w w' := by
  have HC : Hid (∀ (e : Nat) (v : Ev) (j : Nat) (u : Value), xs[e]? = some v → v.cells[j]? = some u → w.cell? ⟨b, e * 4 + j, none⟩ = some u) := hc
  have U0 : Upd [] w (w.alloc (.cells #[.int .u64 (y : Int)] 35)) := Upd.alloc _ _ _
  have KI : Hid _ := idx65 (w.alloc (.cells #[.int .u64 (y : Int)] 35)) o b c xs hl y w.heap.size ((Blk.new w #[.int .u64 (y : Int)] 35).cell 0) hy ho hv (fun e v j u h1 h2 => U0.cell (hc e v j u h1 h2) (by simp))
  have UH : Hid (Upd [] w (w.alloc (.cells #[.int .u64 (y : Int)] 35))) := U0
  clear hc U0 ho hv
  go_enter Ybaz.func43, Ybaz.ntmps43
  go_wp2_with fail
  refine Calls.mono KI.out ?_
  rintro e w1 ⟨i, rfl, h1, h2⟩
  have H1 : Hid _ := h1
  have U2 : Hid (Upd [] w w1) := UH.out.trans h2 (by simp)
  clear h1 h2
  go_wp2_with fail
  go_ret
  exact ⟨i, rfl, H1.out, U2.out⟩
end Go.Proofs.YbulkctquGreatFmt

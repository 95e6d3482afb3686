/-
  zzs4765cfind.
-/
import Derived.Test.YbulkctquGreatFmtVrP
import Derived.Test.YbulkctquGreatFmtInit
namespace Go.Proofs.YbulkctquGreatFmt
open Go.ChangeShapes Go.WideShapes Go.ChangeAt Go.RowKit Go.Ord
set_option linter.unusedVariables false

/-- A write as the law's model lists it. -/
structure Wz where
  v : Nat
  x : Nat
  s : Nat
  k : Nat
  e : Nat
def Wz.cells (z : Wz) : List Value := [.int .u64 z.v, .int .u64 z.x, .int .i64 z.s, .int .i64 z.k, .int .i64 z.e]
theorem wz_at {w : World} {a : Option Addr} {n c : Nat} {fp : List Nat} {ws : List Wz} (S : Sl w 61 5 a n c fp (ws.flatMap Wz.cells)) {i : Nat} {z : Wz} (hz : ws[i]? = some z) {j : Nat} {u : Value} (hu : z.cells[j]? = some u) : ∃ g, a = some ⟨g, 0, none⟩ ∧ fp = [g] ∧ w.cell? ⟨g, i * 5 + j, none⟩ = some u := by
  have hj : j < 5 := by have := (List.getElem?_eq_some_iff.mp hu).1; simpa [Wz.cells] using this
  have hf := flat3 Wz.cells 5 (fun _ => rfl) ws i j z hz hj
  have hl := S.len
  have hi := (List.getElem?_eq_some_iff.mp hz).1
  have hlen : (ws.flatMap Wz.cells).length = ws.length * 5 := by
    clear hf hl hz hi S
    induction ws with
    | nil => rfl
    | cons b ws ih => simp only [List.flatMap_cons, List.length_append, ih, List.length_cons]; simp [Wz.cells]; omega
  have hn : n = ws.length := by omega
  obtain ⟨g, h1, h2, _, h3, _⟩ := S.has (by omega)
  refine ⟨g, h1, h2, ?_⟩
  rw [h3 (i * 5 + j) (by subst hn; omega), hf, hu]
set_option maxRecDepth 100000 in
theorem find9 (w : World) (a : Option Addr) (c : Nat) (fp : List Nat) (ws : List Wz) (S : Sl w 61 5 a ws.length c fp (ws.flatMap Wz.cells)) (ver : Nat) (hl : ws.length < 100000) :
    Calls Ybaz.prog 9 #[.slice a ws.length c, .int .u64 ver] w fun e w' => w' = w ∧ ∃ i : Int, e = .returned (.int .i64 i) ∧ ((i = -1 ∧ ∀ z ∈ ws, z.v ≠ ver) ∨ ∃ (k : Nat) (z : Wz), i = (k : Int) ∧ ws[k]? = some z ∧ z.v = ver) := by
  have SH : Hid _ := S
  clear S
  go_enter Ybaz.func9, Ybaz.ntmps9
  go_wp2_with fail
  go_loopw [8] (fun t8 wr => ∃ i : Nat, i ≤ ws.length ∧ t8 = .int .i64 i ∧ (∀ (j : Nat) (z : Wz), j < i → ws[j]? = some z → z.v ≠ ver) ∧ wr = w) (fun u _ => ws.length - (intOf u).toNat)
  case atStart => exact ⟨0, by omega, rfl, fun j z h => by omega, rfl⟩
  case round =>
    obtain ⟨i, hi, rfl, hn, rfl⟩ := hrel
    have HN : Hid (∀ (j : Nat) (z : Wz), j < i → ws[j]? = some z → z.v ≠ ver) := hn
    clear hn
    by_cases hlt : i < ws.length
    · obtain ⟨z, hz⟩ := has_at ws hlt
      obtain ⟨g, rfl, _, cz⟩ := wz_at SH.out hz (j := 0) (u := .int .u64 z.v) rfl
      simp only [Nat.add_zero] at cz
      have HZ : Hid (ws[i]? = some z) := hz
      clear hz
      by_cases hv : z.v = ver
      · have e1 : (((z.v : Nat) : Int) == ((ver : Nat) : Int)) = true := by rw [hv]; simp
        have HV : Hid (z.v = ver) := hv
        clear hv
        go_wp2_with fail
        go_ret
        exact ⟨rfl, (i : Int), rfl, .inr ⟨i, z, rfl, HZ.out, HV.out⟩⟩
      · have e1 : (((z.v : Nat) : Int) == ((ver : Nat) : Int)) = false := by simp; omega
        have HV : Hid (z.v ≠ ver) := hv
        clear hv
        go_wp2_with fail
        refine ⟨⟨i + 1, by omega, by go_num, fun j z' hj hz' => ?_, (by first | rfl | trivial)⟩, by simp [intOf] <;> omega⟩
        by_cases e : j = i
        · subst e; rw [HZ.out] at hz'; cases hz'; exact HV.out
        · exact HN.out j z' (by omega) hz'
    · go_wp2_with fail
      go_ret
      refine ⟨rfl, -1, rfl, .inl ⟨rfl, fun z hz => ?_⟩⟩
      obtain ⟨j, hj⟩ := List.getElem?_of_mem hz
      exact HN.out j z (by have := (List.getElem?_eq_some_iff.mp hj).1; omega) hj
end Go.Proofs.YbulkctquGreatFmt

/-
  What comes in: how long the sessions can be.
-/
import Derived.Test.YbulkctquGreatFmtRlI
import Derived.SizedLaws
namespace Go.Proofs.YbulkctquGreatFmt
open Go.ChangeShapes Go.WideShapes Go.ChangeAt Go.RowKit Go.Ord
set_option linter.unusedVariables false

theorem weights_mem {H : Type} {P : Program} {e : TypeId} : ∀ {ds : List (DataW H)} {d : DataW H} {n : Nat}, d ∈ ds → n ∈ d.weights P e → n ∈ DataW.weightsAll P e ds
  | a :: r, d, n, h, hn => by
    unfold DataW.weightsAll
    rcases List.mem_cons.mp h with rfl | h
    · exact List.mem_append.mpr (.inl hn)
    · exact List.mem_append.mpr (.inr (weights_mem h hn))
section
variable {H : Type} {enc : TypeId × Value → H} {W : World} {base : Nat} {spare : Nat → Bool} {held : Bool}
theorem row_small {fuel : Nat} {a : Option Addr} {len cap : Nat} {x : DataW H × List MemPlace} (h : DataW.trod enc Ybaz.prog W base spare held fuel 23 [.slice a len cap] = some x) (hw : ∀ n ∈ x.1.weights Ybaz.prog 23, n ≤ reachBytes) : len ≤ reachBytes := by
  rcases DataW.trod_slice Ybaz.underlying23 h with ⟨e, _⟩ | ⟨a', len', cap', elems, rest, n, _, e, rfl, hb, hlc, hcm, hel, hc, _⟩
  · simp at e
    obtain ⟨_, rfl, _⟩ := e
    exact Nat.zero_le _
  · simp at e
    obtain ⟨_, rfl, _⟩ := e
    have hb : Ybaz.prog.bytesOf 26 = 32 := by kernel_rfl
    have := hw ((elems.length + rest.length) * Ybaz.prog.bytesOf 26) (by simp only [DataW.weights, Ybaz.underlying23]; simp)
    rw [hb] at this
    omega
theorem open_rssW {fuel : Nat} {a : Option Addr} {ss : List (List RwT)} {cap : Nat} {x : DataW H × List MemPlace} (h : DataW.trod enc Ybaz.prog W base spare held fuel 22 [.slice a ss.length cap] = some x) (AR : ArgRS W a ss) (hw : ∀ n ∈ x.1.weights Ybaz.prog 22, n ≤ reachBytes) : ∀ l ∈ ss, l.length < 140737488355328 := by
  intro l hl
  obtain ⟨i, hi⟩ := List.getElem?_of_mem hl
  have hil := (List.getElem?_eq_some_iff.mp hi).1
  rcases DataW.trod_slice Ybaz.underlying22 h with ⟨e, _⟩ | ⟨a', len', cap', elems, rest, n, _, e, rfl, hb, hlc, hcm, hel, hc, _⟩
  · simp at e
    obtain ⟨_, e, _⟩ := e
    rw [e] at hil
    simp at hil
  · simp at e
    obtain ⟨rfl, rfl, rfl⟩ := e
    obtain ⟨b, o, ea, ec, hea, c0, _⟩ := AR.at_ i l hi
    injection hea with hea
    subst hea
    have e23 : Ybaz.prog.cellsOf 23 = 1 := by kernel_rfl
    have hci := hc i hil
    rw [e23, Nat.mul_one] at hci
    obtain ⟨y, hy⟩ := has_at elems (k := i) (by omega)
    rw [hy] at hci
    cases hcs : W.cells? base ((⟨b, o, none⟩ : Addr).add i) 1 with
    | none => rw [hcs] at hci; cases hci
    | some cs =>
      rw [hcs] at hci
      obtain ⟨_, h2, h3⟩ := World.cells?_some hcs
      have h4 := h3 0 (by omega)
      rw [add2] at h4
      obtain ⟨v, rfl⟩ := one_of h2
      simp only [Nat.add_zero, List.getElem?_cons_zero] at h4
      rw [c0] at h4
      injection h4 with h4
      subst h4
      have h5 : DataW.trod enc Ybaz.prog W base spare held n 23 [.slice ea l.length ec] = some y := hci
      have := row_small h5 (fun m hm => hw m (by
        simp only [DataW.weights, Ybaz.underlying22]
        refine List.mem_cons.mpr (.inr (List.mem_append.mpr (.inl ?_)))
        exact weights_mem (List.mem_map.mpr ⟨y, List.mem_of_getElem? hy, rfl⟩) hm))
      have hr := reachBytes_lt
      omega
end
end Go.Proofs.YbulkctquGreatFmt

/-
  What comes in: the law's argument, opened.
-/
import Derived.Test.YbulkctquGreatFmtLawN
import Derived.ProofKit
namespace Go.Proofs.YbulkctquGreatFmt
open Go.ChangeShapes Go.WideShapes Go.ChangeAt Go.RowKit Go.Ord
set_option linter.unusedVariables false

theorem list_of {α : Type} {P : Nat → α → Prop} : ∀ n, (∀ i, i < n → ∃ t, P i t) → ∃ ts : List α, ts.length = n ∧ ∀ (i : Nat) (t : α), ts[i]? = some t → P i t
  | 0, _ => ⟨[], rfl, fun i t h => by simp at h⟩
  | n + 1, h => by
    obtain ⟨ts, h1, h2⟩ := list_of n (fun i hi => h i (by omega))
    obtain ⟨t, ht⟩ := h n (by omega)
    refine ⟨ts ++ [t], by simp [h1], fun i u hu => ?_⟩
    rcases snoc_at hu with h3 | ⟨h3, h4⟩
    · exact h2 i u h3
    · rw [h3, h4, h1]; exact ht
theorem nat_u8 {n : Int} (h : (Lit.int .u8 n).wf = true) : ∃ m : Nat, n = (m : Int) ∧ m < 256 := by
  simp only [Lit.wf, IntKind.min, IntKind.max, IntKind.signed, IntKind.bits] at h
  simp at h
  exact ⟨n.toNat, by omega, by omega⟩
theorem spot_none {w : World} {x : Addr} {v : Value} (h : w.cell? x = some v) : x.spot = none := by
  unfold World.cell? at h
  split at h
  · split at h
    · cases h
    · rename_i hs; simpa using hs
  · cases h
theorem add2 (b o m j : Nat) : ((⟨b, o, none⟩ : Addr).add m).add j = ⟨b, o + m + j, none⟩ := by
  unfold Addr.add
  by_cases h1 : m = 0 <;> by_cases h2 : j = 0 <;> simp [h1, h2]
theorem elems_at {β : Type} {w : World} {base k len : Nat} {a : Addr} {f : List Value → Option β} {elems : List β} (hk : 0 < k) (hl : elems.length = len) (hc : ∀ i, i < len → (w.cells? base (a.add (i * k)) k).bind f = elems[i]?) :
    len = 0 ∨ ∃ b o, a = ⟨b, o, none⟩ ∧ ∀ i, i < len → ∃ cs y, cs.length = k ∧ f cs = some y ∧ ∀ j, j < k → w.cell? ⟨b, o + i * k + j, none⟩ = cs[j]? := by
  have key : ∀ i, i < len → ∃ cs y, cs.length = k ∧ f cs = some y ∧ ∀ j, j < k → w.cell? ((a.add (i * k)).add j) = cs[j]? := by
    intro i hi
    have h1 := hc i hi
    obtain ⟨y, hy⟩ := has_at elems (k := i) (by omega)
    rw [hy] at h1
    cases hcs : w.cells? base (a.add (i * k)) k with
    | none => rw [hcs] at h1; cases h1
    | some cs =>
      rw [hcs] at h1
      obtain ⟨_, h2, h3⟩ := World.cells?_some hcs
      exact ⟨cs, y, h2, h1, h3⟩
  by_cases h0 : len = 0
  · exact .inl h0
  · right
    obtain ⟨cs, y, h1, h2, h3⟩ := key 0 (by omega)
    have h4 := h3 0 hk
    obtain ⟨v, hv⟩ := has_at cs (k := 0) (by omega)
    rw [hv, Nat.zero_mul] at h4
    have h5 : (a.add 0).add 0 = a := by simp [Addr.add]
    rw [h5] at h4
    have h6 := spot_none h4
    obtain ⟨b, o, sp⟩ := a
    simp at h6
    subst h6
    refine ⟨b, o, rfl, fun i hi => ?_⟩
    obtain ⟨cs, y, h1, h2, h3⟩ := key i hi
    refine ⟨cs, y, h1, h2, fun j hj => ?_⟩
    rw [← h3 j hj, add2]
theorem two_of {cs : List Value} (h : cs.length = 2) : ∃ a b, cs = [a, b] := by
  rcases cs with _ | ⟨a, _ | ⟨b, _ | ⟨c, r⟩⟩⟩
  · simp at h
  · simp at h
  · exact ⟨a, b, rfl⟩
  · simp at h
theorem three_of {cs : List Value} (h : cs.length = 3) : ∃ a b c, cs = [a, b, c] := by
  rcases cs with _ | ⟨a, _ | ⟨b, _ | ⟨c, _ | ⟨d, r⟩⟩⟩⟩
  · simp at h
  · simp at h
  · simp at h
  · exact ⟨a, b, c, rfl⟩
  · simp at h
section
variable {H : Type} {enc : TypeId × Value → H} {W : World} {base : Nat} {spare : Nat → Bool} {held : Bool}
theorem open_evs {fuel : Nat} {cs : List Value} {x : DataW H × List MemPlace} (h : DataW.trod enc Ybaz.prog W base spare held fuel 66 cs = some x) :
    ∃ (a : Option Addr) (cap : Nat) (es : List CE), cs = [.slice a es.length cap] ∧ ArgV W a es ∧ es.length ≤ maxLen := by
  rcases DataW.trod_slice Ybaz.underlying66 h with ⟨rfl, _⟩ | ⟨a, len, cap, elems, rest, n, _, rfl, _, hb, hlc, hcm, hel, hc, _⟩
  · exact ⟨none, 0, [], rfl, ⟨fun j e he => by simp at he⟩, by simp⟩
  · have e71 : Ybaz.prog.cellsOf 71 = 2 := by kernel_rfl
    have e4 : Ybaz.prog.cellsOf 4 = 1 := by kernel_rfl
    have e5 : Ybaz.prog.cellsOf 5 = 1 := by kernel_rfl
    rw [e71] at hc
    rcases elems_at (by omega) hel hc with h0 | ⟨b, o, rfl, hK⟩
    · subst h0
      exact ⟨some a, cap, [], rfl, ⟨fun j e he => by simp at he⟩, by simp⟩
    · obtain ⟨es, hl, hes⟩ := list_of (P := fun j (e : CE) => W.cell? ⟨b, o + j * 2, none⟩ = some (.bool e.w) ∧ W.cell? ⟨b, o + j * 2 + 1, none⟩ = some (.int .u8 e.x) ∧ e.x < 256) len (fun i hi => by
        obtain ⟨cs, y, h1, h2, h3⟩ := hK i hi
        obtain ⟨xs, m, _, _, _, hxl, hf⟩ := DataW.trod_struct Ybaz.underlying71 h2
        simp at hxl
        have g0 := hf 0 _ rfl
        have g1 := hf 1 _ rfl
        obtain ⟨y0, hy0⟩ := has_at xs (k := 0) (by omega)
        obtain ⟨y1, hy1⟩ := has_at xs (k := 1) (by omega)
        rw [hy0] at g0
        rw [hy1] at g1
        obtain ⟨c0, q0, _⟩ := DataW.trod_bool Ybaz.underlying4 g0
        obtain ⟨c1, q1, _, q2⟩ := DataW.trod_int Ybaz.underlying5 g1
        have q0 : (cs.drop 0).take (Ybaz.prog.cellsOf 4) = [.bool c0] := q0
        have q1 : (cs.drop 1).take (Ybaz.prog.cellsOf 5) = [.int .u8 c1] := q1
        rw [e4] at q0
        rw [e5] at q1
        obtain ⟨c2, rfl, hc2⟩ := nat_u8 q2
        have k0 := h3 0 (by omega)
        have k1 := h3 1 (by omega)
        obtain ⟨v0, v1, rfl⟩ := two_of h1
        simp at q0 q1
        simp only [Nat.add_zero, List.getElem?_cons_zero, List.getElem?_cons_succ] at k0 k1
        rw [q0] at k0
        rw [q1] at k1
        exact ⟨⟨c0, c2⟩, k0, k1, hc2⟩)
      subst hl
      refine ⟨some ⟨b, o, none⟩, cap, es, rfl, ⟨fun j e he => ?_⟩, by omega⟩
      obtain ⟨h1, h2, h3⟩ := hes j e he
      exact ⟨b, o, rfl, h1, h2, h3⟩
theorem open_txs {fuel : Nat} {cs : List Value} {x : DataW H × List MemPlace} (h : DataW.trod enc Ybaz.prog W base spare held fuel 65 cs = some x) :
    ∃ (a : Option Addr) (cap : Nat) (ts : List CT), cs = [.slice a ts.length cap] ∧ ArgE W a ts := by
  rcases DataW.trod_slice Ybaz.underlying65 h with ⟨rfl, _⟩ | ⟨a, len, cap, elems, rest, n, _, rfl, _, hb, hlc, hcm, hel, hc, _⟩
  · exact ⟨none, 0, [], rfl, ⟨fun j e he => by simp at he⟩⟩
  · have e68 : Ybaz.prog.cellsOf 68 = 3 := by kernel_rfl
    have e4 : Ybaz.prog.cellsOf 4 = 1 := by kernel_rfl
    have e5 : Ybaz.prog.cellsOf 5 = 1 := by kernel_rfl
    have e66 : Ybaz.prog.cellsOf 66 = 1 := by kernel_rfl
    rw [e68] at hc
    rcases elems_at (by omega) hel hc with h0 | ⟨b, o, rfl, hK⟩
    · subst h0
      exact ⟨some a, cap, [], rfl, ⟨fun j e he => by simp at he⟩⟩
    · obtain ⟨ts, hl, hts⟩ := list_of (P := fun i (t : CT) => ∃ ea ec, W.cell? ⟨b, o + i * 3, none⟩ = some (.int .u8 t.s) ∧ W.cell? ⟨b, o + i * 3 + 1, none⟩ = some (.bool t.ab) ∧ W.cell? ⟨b, o + i * 3 + 2, none⟩ = some (.slice ea t.evs.length ec) ∧ t.s < 256 ∧ ArgV W ea t.evs ∧ t.evs.length ≤ maxLen) len (fun i hi => by
        obtain ⟨cs, y, h1, h2, h3⟩ := hK i hi
        obtain ⟨xs, m, _, _, _, hxl, hf⟩ := DataW.trod_struct Ybaz.underlying68 h2
        simp at hxl
        have g0 := hf 0 _ rfl
        have g1 := hf 1 _ rfl
        have g2 := hf 2 _ rfl
        obtain ⟨y0, hy0⟩ := has_at xs (k := 0) (by omega)
        obtain ⟨y1, hy1⟩ := has_at xs (k := 1) (by omega)
        obtain ⟨y2, hy2⟩ := has_at xs (k := 2) (by omega)
        rw [hy0] at g0
        rw [hy1] at g1
        rw [hy2] at g2
        obtain ⟨c0, q0, _, r0⟩ := DataW.trod_int Ybaz.underlying5 g0
        obtain ⟨c1, q1, _⟩ := DataW.trod_bool Ybaz.underlying4 g1
        obtain ⟨ea, ec, es, q2, r2, r3⟩ := open_evs g2
        have q0 : (cs.drop 0).take (Ybaz.prog.cellsOf 5) = [.int .u8 c0] := q0
        have q1 : (cs.drop 1).take (Ybaz.prog.cellsOf 4) = [.bool c1] := q1
        have q2 : (cs.drop 2).take (Ybaz.prog.cellsOf 66) = [.slice ea es.length ec] := q2
        rw [e5] at q0
        rw [e4] at q1
        rw [e66] at q2
        obtain ⟨c2, rfl, hc2⟩ := nat_u8 r0
        have k0 := h3 0 (by omega)
        have k1 := h3 1 (by omega)
        have k2 := h3 2 (by omega)
        obtain ⟨v0, v1, v2, rfl⟩ := three_of h1
        simp at q0 q1 q2
        simp only [Nat.add_zero, List.getElem?_cons_zero, List.getElem?_cons_succ] at k0 k1 k2
        rw [q0] at k0
        rw [q1] at k1
        rw [q2] at k2
        exact ⟨⟨c2, c1, es⟩, ea, ec, k0, k1, k2, hc2, r2, r3⟩)
      subst hl
      refine ⟨some ⟨b, o, none⟩, cap, ts, rfl, ⟨fun j e he => ?_⟩⟩
      obtain ⟨ea, ec, h1, h2, h3, h4, h5, h6⟩ := hts j e he
      exact ⟨b, o, ea, ec, rfl, h1, h2, h3, h4, h5, h6⟩
end
end Go.Proofs.YbulkctquGreatFmt

/-
  What comes in: the raw law's argument, opened.
-/
import Derived.Test.YbulkctquGreatFmtRlP
namespace Go.Proofs.YbulkctquGreatFmt
open Go.ChangeShapes Go.WideShapes Go.ChangeAt Go.RowKit Go.Ord
set_option linter.unusedVariables false

theorem four_of {cs : List Value} (h : cs.length = 4) : ∃ a b c d, cs = [a, b, c, d] := by
  rcases cs with _ | ⟨a, _ | ⟨b, _ | ⟨c, _ | ⟨d, _ | ⟨e, r⟩⟩⟩⟩⟩
  · simp at h
  · simp at h
  · simp at h
  · simp at h
  · exact ⟨a, b, c, d, rfl⟩
  · simp at h
theorem one_of {cs : List Value} (h : cs.length = 1) : ∃ a, cs = [a] := by
  rcases cs with _ | ⟨a, _ | ⟨b, r⟩⟩
  · simp at h
  · exact ⟨a, rfl⟩
  · simp at h
section
variable {H : Type} {enc : TypeId × Value → H} {W : World} {base : Nat} {spare : Nat → Bool} {held : Bool}
theorem open_rvs {fuel : Nat} {cs : List Value} {x : DataW H × List MemPlace} (h : DataW.trod enc Ybaz.prog W base spare held fuel 24 cs = some x) :
    ∃ (a : Option Addr) (cap : Nat) (es : List RV), cs = [.slice a es.length cap] ∧ ArgRV W a es ∧ es.length ≤ maxLen ∧ NilOr a es.length cap := by
  rcases DataW.trod_slice Ybaz.underlying24 h with ⟨rfl, _⟩ | ⟨a, len, cap, elems, rest, n, _, rfl, _, hb, hlc, hcm, hel, hc, _⟩
  · exact ⟨none, 0, [], rfl, ⟨fun j e he => by simp at he⟩, by simp, .inl ⟨rfl, rfl, rfl⟩⟩
  · have e33 : Ybaz.prog.cellsOf 33 = 4 := by kernel_rfl
    have e4 : Ybaz.prog.cellsOf 4 = 1 := by kernel_rfl
    have e5 : Ybaz.prog.cellsOf 5 = 1 := by kernel_rfl
    rw [e33] at hc
    rcases elems_at (by omega) hel hc with h0 | ⟨b, o, rfl, hK⟩
    · subst h0
      exact ⟨some a, cap, [], rfl, ⟨fun j e he => by simp at he⟩, by simp, .inr ⟨_, rfl⟩⟩
    · obtain ⟨es, hl, hes⟩ := list_of (P := fun j (e : RV) => W.cell? ⟨b, o + j * 4, none⟩ = some (.int .u8 e.k) ∧ W.cell? ⟨b, o + j * 4 + 1, none⟩ = some (.int .u8 e.x) ∧ W.cell? ⟨b, o + j * 4 + 2, none⟩ = some (.int .u8 e.v) ∧ W.cell? ⟨b, o + j * 4 + 3, none⟩ = some (.bool e.i) ∧ e.k < 256 ∧ e.x < 256 ∧ e.v < 256) len (fun i hi => by
        obtain ⟨cs, y, h1, h2, h3⟩ := hK i hi
        obtain ⟨xs, m, _, _, _, hxl, hf⟩ := DataW.trod_struct Ybaz.underlying33 h2
        simp at hxl
        have g0 := hf 0 _ rfl
        have g1 := hf 1 _ rfl
        have g2 := hf 2 _ rfl
        have g3 := hf 3 _ rfl
        obtain ⟨y0, hy0⟩ := has_at xs (k := 0) (by omega)
        obtain ⟨y1, hy1⟩ := has_at xs (k := 1) (by omega)
        obtain ⟨y2, hy2⟩ := has_at xs (k := 2) (by omega)
        obtain ⟨y3, hy3⟩ := has_at xs (k := 3) (by omega)
        rw [hy0] at g0
        rw [hy1] at g1
        rw [hy2] at g2
        rw [hy3] at g3
        obtain ⟨c0, q0, _, r0⟩ := DataW.trod_int Ybaz.underlying5 g0
        obtain ⟨c1, q1, _, r1⟩ := DataW.trod_int Ybaz.underlying5 g1
        obtain ⟨c2, q2, _, r2⟩ := DataW.trod_int Ybaz.underlying5 g2
        obtain ⟨c3, q3, _⟩ := DataW.trod_bool Ybaz.underlying4 g3
        have q0 : (cs.drop 0).take (Ybaz.prog.cellsOf 5) = [.int .u8 c0] := q0
        have q1 : (cs.drop 1).take (Ybaz.prog.cellsOf 5) = [.int .u8 c1] := q1
        have q2 : (cs.drop 2).take (Ybaz.prog.cellsOf 5) = [.int .u8 c2] := q2
        have q3 : (cs.drop 3).take (Ybaz.prog.cellsOf 4) = [.bool c3] := q3
        rw [e5] at q0 q1 q2
        rw [e4] at q3
        obtain ⟨n0, rfl, hn0⟩ := nat_u8 r0
        obtain ⟨n1, rfl, hn1⟩ := nat_u8 r1
        obtain ⟨n2, rfl, hn2⟩ := nat_u8 r2
        have k0 := h3 0 (by omega)
        have k1 := h3 1 (by omega)
        have k2 := h3 2 (by omega)
        have k3 := h3 3 (by omega)
        obtain ⟨v0, v1, v2, v3, rfl⟩ := four_of h1
        simp at q0 q1 q2 q3
        simp only [Nat.add_zero, List.getElem?_cons_zero, List.getElem?_cons_succ] at k0 k1 k2 k3
        rw [q0] at k0
        rw [q1] at k1
        rw [q2] at k2
        rw [q3] at k3
        exact ⟨⟨n0, n1, n2, c3⟩, k0, k1, k2, k3, hn0, hn1, hn2⟩)
      subst hl
      refine ⟨some ⟨b, o, none⟩, cap, es, rfl, ⟨fun j e he => ?_⟩, by omega, .inr ⟨_, rfl⟩⟩
      exact ⟨b, o, rfl, hes j e he⟩
theorem open_rts {fuel : Nat} {cs : List Value} {x : DataW H × List MemPlace} (h : DataW.trod enc Ybaz.prog W base spare held fuel 23 cs = some x) :
    ∃ (a : Option Addr) (cap : Nat) (ts : List RwT), cs = [.slice a ts.length cap] ∧ ArgRT W a ts ∧ ts.length ≤ maxLen ∧ NilOr a ts.length cap := by
  rcases DataW.trod_slice Ybaz.underlying23 h with ⟨rfl, _⟩ | ⟨a, len, cap, elems, rest, n, _, rfl, _, hb, hlc, hcm, hel, hc, _⟩
  · exact ⟨none, 0, [], rfl, ⟨fun j e he => by simp at he⟩, by simp, .inl ⟨rfl, rfl, rfl⟩⟩
  · have e26 : Ybaz.prog.cellsOf 26 = 2 := by kernel_rfl
    have e4 : Ybaz.prog.cellsOf 4 = 1 := by kernel_rfl
    have e24 : Ybaz.prog.cellsOf 24 = 1 := by kernel_rfl
    rw [e26] at hc
    rcases elems_at (by omega) hel hc with h0 | ⟨b, o, rfl, hK⟩
    · subst h0
      exact ⟨some a, cap, [], rfl, ⟨fun j e he => by simp at he⟩, by simp, .inr ⟨_, rfl⟩⟩
    · obtain ⟨ts, hl, hts⟩ := list_of (P := fun i (t : RwT) => ∃ ea ec, W.cell? ⟨b, o + i * 2, none⟩ = some (.bool t.com) ∧ W.cell? ⟨b, o + i * 2 + 1, none⟩ = some (.slice ea t.evs.length ec) ∧ ArgRV W ea t.evs ∧ t.evs.length ≤ maxLen ∧ NilOr ea t.evs.length ec) len (fun i hi => by
        obtain ⟨cs, y, h1, h2, h3⟩ := hK i hi
        obtain ⟨xs, m, _, _, _, hxl, hf⟩ := DataW.trod_struct Ybaz.underlying26 h2
        simp at hxl
        have g0 := hf 0 _ rfl
        have g1 := hf 1 _ rfl
        obtain ⟨y0, hy0⟩ := has_at xs (k := 0) (by omega)
        obtain ⟨y1, hy1⟩ := has_at xs (k := 1) (by omega)
        rw [hy0] at g0
        rw [hy1] at g1
        obtain ⟨c0, q0, _⟩ := DataW.trod_bool Ybaz.underlying4 g0
        obtain ⟨ea, ec, es, q1, r1, r2, r3⟩ := open_rvs g1
        have q0 : (cs.drop 0).take (Ybaz.prog.cellsOf 4) = [.bool c0] := q0
        have q1 : (cs.drop 1).take (Ybaz.prog.cellsOf 24) = [.slice ea es.length ec] := q1
        rw [e4] at q0
        rw [e24] at q1
        have k0 := h3 0 (by omega)
        have k1 := h3 1 (by omega)
        obtain ⟨v0, v1, rfl⟩ := two_of h1
        simp at q0 q1
        simp only [Nat.add_zero, List.getElem?_cons_zero, List.getElem?_cons_succ] at k0 k1
        rw [q0] at k0
        rw [q1] at k1
        exact ⟨⟨c0, es⟩, ea, ec, k0, k1, r1, r2, r3⟩)
      subst hl
      refine ⟨some ⟨b, o, none⟩, cap, ts, rfl, ⟨fun j e he => ?_⟩, by omega, .inr ⟨_, rfl⟩⟩
      obtain ⟨ea, ec, h1, h2, h3⟩ := hts j e he
      exact ⟨b, o, ea, ec, rfl, h1, h2, h3⟩
theorem open_rss {fuel : Nat} {cs : List Value} {x : DataW H × List MemPlace} (h : DataW.trod enc Ybaz.prog W base spare held fuel 22 cs = some x) :
    ∃ (a : Option Addr) (cap : Nat) (ss : List (List RwT)), cs = [.slice a ss.length cap] ∧ ArgRS W a ss ∧ ss.length ≤ maxLen ∧ NilOr a ss.length cap := by
  rcases DataW.trod_slice Ybaz.underlying22 h with ⟨rfl, _⟩ | ⟨a, len, cap, elems, rest, n, _, rfl, _, hb, hlc, hcm, hel, hc, _⟩
  · exact ⟨none, 0, [], rfl, ⟨fun j e he => by simp at he⟩, by simp, .inl ⟨rfl, rfl, rfl⟩⟩
  · have e23 : Ybaz.prog.cellsOf 23 = 1 := by kernel_rfl
    rw [e23] at hc
    rcases elems_at (by omega) hel hc with h0 | ⟨b, o, rfl, hK⟩
    · subst h0
      exact ⟨some a, cap, [], rfl, ⟨fun j e he => by simp at he⟩, by simp, .inr ⟨_, rfl⟩⟩
    · obtain ⟨ss, hl, hss⟩ := list_of (P := fun i (l : List RwT) => ∃ ea ec, W.cell? ⟨b, o + i, none⟩ = some (.slice ea l.length ec) ∧ ArgRT W ea l ∧ l.length ≤ maxLen ∧ NilOr ea l.length ec) len (fun i hi => by
        obtain ⟨cs, y, h1, h2, h3⟩ := hK i hi
        obtain ⟨ea, ec, ts, q1, r1, r2, r3⟩ := open_rts h2
        have k0 := h3 0 (by omega)
        simp only [Nat.add_zero, Nat.mul_one] at k0
        rw [q1] at k0
        exact ⟨ts, ea, ec, k0, r1, r2, r3⟩)
      subst hl
      refine ⟨some ⟨b, o, none⟩, cap, ss, rfl, ⟨fun j e he => ?_⟩, by omega, .inr ⟨_, rfl⟩⟩
      obtain ⟨ea, ec, h1, h2⟩ := hss j e he
      exact ⟨b, o, ea, ec, rfl, h1, h2⟩
end
end Go.Proofs.YbulkctquGreatFmt

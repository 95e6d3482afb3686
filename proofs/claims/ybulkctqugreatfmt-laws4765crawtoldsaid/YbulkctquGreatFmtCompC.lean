/-
  components' memory: the tops of its two stacks.
-/
import Derived.Test.YbulkctquGreatFmtCompB
import Derived.Test.YbulkctquGreatFmtCompP
import Derived.Test.YbulkctquGreatFmtOrdC
namespace Go.Proofs.YbulkctquGreatFmt
open Go.ChangeShapes Go.WideShapes Go.ChangeAt Go.RowKit Go.Ord
set_option linter.unusedVariables false

theorem frC_len (l : List (Nat × Nat)) : (l.flatMap frC).length = l.length * 2 := by
  induction l with
  | nil => rfl
  | cons a l ih => simp [frC, ih]; omega
section
variable {w0 w w' : World} {N : Nat} {vis low : List Nat} {cmp : List Int} {opn os : List Nat} {cal cs : List (Nat × Nat)} {rch : Nat} {siz : List Nat} {vS : SV} {f8 f9 fS : List Nat}
theorem CA.topc {v n : Nat} (h : CA w0 w N vis low cmp opn (cs ++ [(v, n)]) rch siz vS f8 f9 fS) : ∃ g c, f9 = [g] ∧ w.cell? ⟨w0.heap.size + 6, 0, none⟩ = some (.slice (some ⟨g, 0, none⟩) (cs.length + 1) c) ∧ w.frozen? ⟨w0.heap.size + 6, 0, none⟩ = false ∧
    w.cell? ⟨g, cs.length * 2, none⟩ = some (.int .i64 v) ∧ w.cell? ⟨g, cs.length * 2 + 1, none⟩ = some (.int .i64 n) ∧ w.frozen? ⟨g, cs.length * 2 + 1, none⟩ = false ∧ cs.length + 1 ≤ c ∧ c ≤ 9223372036854775807 ∧ Sl w 150 2 (some ⟨g, 0, none⟩) (cs.length + 1) c [g] ((cs ++ [(v, n)]).flatMap frC) := by
  obtain ⟨a, c, h1, h2, h3⟩ := h.o9
  rw [List.length_append, List.length_singleton] at h1 h3
  obtain ⟨g, e1, e2, _, e3, e4⟩ := h3.has (by omega)
  subst e1
  have hl := frC_len cs
  refine ⟨g, c, e2, h1, h2, ?_, ?_, e4 _, h3.le.1, h3.le.2, by rw [← e2]; exact h3⟩
  · rw [e3 _ (by omega), List.flatMap_append, List.getElem?_append_right (by omega), hl]
    simp [frC, nI]
  · rw [e3 _ (by omega), List.flatMap_append, List.getElem?_append_right (by omega), hl]
    simp [frC, nI]
theorem set_last (cs : List (Nat × Nat)) (v n m : Nat) : ((cs ++ [(v, n)]).flatMap frC).set (cs.length * 2 + 1) (nI m) = (cs ++ [(v, m)]).flatMap frC := by
  have hl := frC_len cs
  rw [List.flatMap_append, List.flatMap_append, List.set_append_right _ _ (by omega)]
  congr 1
  rw [show cs.length * 2 + 1 - (cs.flatMap frC).length = 1 by omega]
  simp [frC]
theorem CA.stepc {v n : Nat} (h : CA w0 w N vis low cmp opn (cs ++ [(v, n)]) rch siz vS f8 f9 fS) {g : Nat} (hg : f9 = [g]) (m : Nat) : CA w0 (w.setCell ⟨g, cs.length * 2 + 1, none⟩ (nI m)) N vis low cmp opn (cs ++ [(v, m)]) rch siz vS f8 f9 fS := by
  obtain ⟨g', c, e2, h1, h2, h3, h4, h5, h6, h7, h8⟩ := h.topc
  rw [hg] at e2
  injection e2 with e2
  subst e2
  have lo : w0.heap.size + 8 ≤ g := h.lo g (by rw [hg]; simp)
  have hu := Upd.store w g (cs.length * 2 + 1) (nI m)
  refine h.newCal ⟨some ⟨g, 0, none⟩, c, ?_, set_free h2, ?_⟩ (hu.mono (fun k hk => .inl (by simp at hk; rw [hg]; simp [hk]))) (fun k hk => .inl hk) (by rw [hg]; simp)
  · rw [List.length_append, List.length_singleton]; exact set_other h1 (.inl (by omega))
  · rw [List.length_append, List.length_singleton, hg]
    have := h8.store (cs.length * 2 + 1) (nI m)
    rw [set_last] at this
    exact this
theorem CA.popc {v n : Nat} (h : CA w0 w N vis low cmp opn (cs ++ [(v, n)]) rch siz vS f8 f9 fS) {g c : Nat} (hg : f9 = [g]) (hc : w.cell? ⟨w0.heap.size + 6, 0, none⟩ = some (.slice (some ⟨g, 0, none⟩) (cs.length + 1) c)) : CA w0 (w.setCell ⟨w0.heap.size + 6, 0, none⟩ (.slice (some ⟨g, 0, none⟩) cs.length c)) N vis low cmp opn cs rch siz vS f8 f9 fS := by
  obtain ⟨g', c', e2, h1, h2, h3, h4, h5, h6, h7, h8⟩ := h.topc
  rw [hg] at e2
  injection e2 with e2
  subst e2
  rw [hc] at h1
  injection h1 with h1
  injection h1 with _ _ h1
  subst h1
  have lo : w0.heap.size + 8 ≤ g := h.lo g (by rw [hg]; simp)
  have hu := Upd.store w (w0.heap.size + 6) 0 (.slice (some ⟨g, 0, none⟩) cs.length c)
  refine h.newCal ⟨some ⟨g, 0, none⟩, c, set_same hc, set_free h2, ?_⟩ (hu.mono (fun k hk => .inl (by simp at hk; simp [hk]))) (fun k hk => .inl hk) (by rw [hg]; simp)
  have k := h8.keep hu (by simp; omega)
  rw [hg]
  have hl := k.len
  have hl2 := frC_len cs
  refine ⟨by omega, ?_⟩
  rcases k.lies with ⟨e, _⟩ | ⟨g', cur, e1, e2, e3, e4, e5, e6, e7⟩
  · cases e
  · refine .inr ⟨g', cur, e1, e2, e3, by omega, e5, e6, ?_⟩
    rw [List.flatMap_append] at e7
    have : (cur.toList.take ((cs.length + 1) * 2)).take (cs.length * 2) = cs.flatMap frC := by rw [e7, List.take_left' (by omega)]
    rw [List.take_take] at this
    rw [← this]; congr 1; omega
theorem CA.topo {v : Nat} (h : CA w0 w N vis low cmp (os ++ [v]) cal rch siz vS f8 f9 fS) : ∃ g c, f8 = [g] ∧ w.cell? ⟨w0.heap.size + 5, 0, none⟩ = some (.slice (some ⟨g, 0, none⟩) (os.length + 1) c) ∧ w.frozen? ⟨w0.heap.size + 5, 0, none⟩ = false ∧
    w.cell? ⟨g, os.length, none⟩ = some (.int .i64 v) ∧ os.length + 1 ≤ c ∧ c ≤ 9223372036854775807 ∧ Sl w 3 1 (some ⟨g, 0, none⟩) (os.length + 1) c [g] ((os ++ [v]).map nI) := by
  obtain ⟨a, c, h1⟩ := h.o8
  rw [List.length_append, List.length_singleton] at h1
  obtain ⟨g, e1, e2, hat⟩ := h1.at (by omega)
  subst e1
  have hc := hat.cel (show os.length < os.length + 1 by omega)
  rw [show hg (os ++ [v]) os.length = v by simp [hg]] at hc
  exact ⟨g, c, e2, h1.box, h1.fre, hc, h1.row.le.1, h1.row.le.2, by rw [← e2]; exact h1.row⟩
theorem CA.popo {v : Nat} (h : CA w0 w N vis low cmp (os ++ [v]) cal rch siz vS f8 f9 fS) {g c : Nat} (hg8 : f8 = [g]) (hc : w.cell? ⟨w0.heap.size + 5, 0, none⟩ = some (.slice (some ⟨g, 0, none⟩) (os.length + 1) c)) : CA w0 (w.setCell ⟨w0.heap.size + 5, 0, none⟩ (.slice (some ⟨g, 0, none⟩) os.length c)) N vis low cmp os cal rch siz vS f8 f9 fS := by
  obtain ⟨g', c', e2, h1, h2, h3, h6, h7, h8⟩ := h.topo
  rw [hg8] at e2
  injection e2 with e2
  subst e2
  rw [hc] at h1
  injection h1 with h1
  injection h1 with _ _ h1
  subst h1
  have lo : w0.heap.size + 8 ≤ g := h.lo g (by rw [hg8]; simp)
  have hu := Upd.store w (w0.heap.size + 5) 0 (.slice (some ⟨g, 0, none⟩) os.length c)
  have k := h8.keep hu (by simp; omega)
  rw [List.map_append] at k
  exact h.newOpn ⟨some ⟨g, 0, none⟩, c, set_same hc, set_free h2, by rw [hg8]; exact sl_cut k, by rw [hg8]; simp; omega⟩ (hu.mono (fun k hk => .inl (by simp at hk; simp [hk]))) (fun k hk => .inl hk) (by rw [hg8]; simp)
/-- A cell of one of the three rows. -/
theorem CA.gv (h : CA w0 w N vis low cmp opn cal rch siz vS f8 f9 fS) {i : Nat} (hi : i < N) : w.cell? ⟨w0.heap.size, i, none⟩ = some (.int .i64 (hg vis i)) ∧ w.frozen? ⟨w0.heap.size, i, none⟩ = false := by
  obtain ⟨g, e, _, _, c, z⟩ := h.s5.has (by omega)
  injection e with e
  injection e with e
  subst e
  have hl : vis.length = N := by have := h.s5.len; simpa using this
  exact ⟨by rw [c i (by omega)]; simp [hg, nI, List.getElem?_eq_getElem (show i < vis.length by omega)], z i⟩
theorem CA.gl (h : CA w0 w N vis low cmp opn cal rch siz vS f8 f9 fS) {i : Nat} (hi : i < N) : w.cell? ⟨w0.heap.size + 2, i, none⟩ = some (.int .i64 (hg low i)) ∧ w.frozen? ⟨w0.heap.size + 2, i, none⟩ = false := by
  obtain ⟨g, e, _, _, c, z⟩ := h.s6.has (by omega)
  injection e with e
  injection e with e
  subst e
  have hl : low.length = N := by have := h.s6.len; simpa using this
  exact ⟨by rw [c i (by omega)]; simp [hg, nI, List.getElem?_eq_getElem (show i < low.length by omega)], z i⟩
theorem CA.gc (h : CA w0 w N vis low cmp opn cal rch siz vS f8 f9 fS) {i : Nat} {z : Int} (hi : cmp[i]? = some z) : w.cell? ⟨w0.heap.size + 4, i, none⟩ = some (.int .i64 z) ∧ w.frozen? ⟨w0.heap.size + 4, i, none⟩ = false := by
  have hl : cmp.length = N := by have := h.s2.len; simpa using this
  have h1 := (List.getElem?_eq_some_iff.mp hi).1
  obtain ⟨g, e, _, _, c, zz⟩ := h.s2.has (by omega)
  injection e with e
  injection e with e
  subst e
  exact ⟨by rw [c i (by omega)]; simp [hi, iI], zz i⟩
end
end Go.Proofs.YbulkctquGreatFmt

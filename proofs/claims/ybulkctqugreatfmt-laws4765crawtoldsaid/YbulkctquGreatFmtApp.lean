/-
  append, by its run; a variable that holds a slice of the call's own.
-/
import Derived.Test.YbulkctquGreatFmtOverB
import Derived.Test.YbulkctquGreatFmtHeap2
namespace Go.Proofs.YbulkctquGreatFmt
open Go.ChangeShapes Go.WideShapes Go.ChangeAt Go.RowKit Go.Ord
set_option linter.unusedVariables false

theorem run_appended {P : Program} (W W2 : World) (t ty e : TypeId) (sz bytes : Nat) (H : SliceOf P t e sz bytes) (hb : bytes ≤ 100) (ao : Option Addr) (n cap : Nat) (fp : List Nat) (xs : List Value) (hs : Sl W e sz ao n cap fp xs) (us : List Value) (hl : us.length = sz) (h1 : ∀ u ∈ us, u.oneCell' = true) (hn : n < 1000000000000)
    (hW2 : Upd [] (W.alloc (.cells us.toArray e)) W2) :
    ∃ g' cap' w', (Builtin.append_ #[t, t] ty #[.slice ao n cap, .slice (some ⟨W.heap.size, 0, none⟩) 1 1]).run P W2 = .ok (.slice (some ⟨g', 0, none⟩) (n + 1) cap') w' ∧ Sl w' e sz (some ⟨g', 0, none⟩) (n + 1) cap' [g'] (xs ++ us) ∧ Upd fp W w' ∧ (g' ∈ fp ∨ W.heap.size ≤ g') := by
  obtain ⟨ht, i, z, hi, hz, hsize, hby, hzs, hsz⟩ := H
  have hu : Upd [] W W2 := (Upd.alloc [] _ _).trans hW2 (by simp)
  obtain ⟨g', cap', w', q1, q2, q3, q4⟩ := run_append (P := P) W2 t ty e i z sz bytes ht hi hz hsize hby hzs hsz ao n cap fp xs (hs.keep hu (by simp)) ⟨W.heap.size, 0, none⟩ 1 1 us (by omega) (fun j v hj => by
      have := many_new W us e j v hj
      rw [Go.WideShapes.add_plain] at this ⊢
      exact hW2.cell this (by simp)) h1 (by omega) (by unfold maxLen; omega) (by
    have : (n + 1) * bytes ≤ 1000000000000 * 100 := Nat.mul_le_mul (by omega) hb
    omega)
  refine ⟨g', cap', w', q1, q2, (hu.mono (by simp)).trans q3 (fun k hk => .inl hk), ?_⟩
  rcases q4 with q4 | q4
  · exact .inl q4
  · exact .inr (by have := hu.size; omega)

/-- A slice variable in cell o of block b, its row of the call's own. -/
structure BoxL (b o : Nat) (e : TypeId) (sz n : Nat) (fp : List Nat) (xs : List Value) (w : World) : Prop where
  lies : ∃ a c, w.cell? ⟨b, o, none⟩ = some (.slice a n c) ∧ w.frozen? ⟨b, o, none⟩ = false ∧ Sl w e sz a n c fp xs
  nb : b ∉ fp
  nd : fp.Nodup
theorem BoxL.keeps (b o : Nat) (e : TypeId) (sz n : Nat) (fp : List Nat) (xs : List Value) : Keeps (b :: fp) (BoxL b o e sz n fp xs) := by
  intro w w' S h hu hS
  obtain ⟨a, c, h1, h2, h3⟩ := h.lies
  exact ⟨⟨a, c, hu.cell h1 (hS b (by simp)), hu.free (World.block_lt_of_cell? _ _ h1) h2 (hS b (by simp)), h3.keep hu (fun k hk => hS k (by simp [hk]))⟩, h.nb, h.nd⟩
theorem BoxL.put {b o : Nat} {e : TypeId} {sz n : Nat} {fp : List Nat} {xs : List Value} {w : World} (h : BoxL b o e sz n fp xs w) {a : Option Addr} {c : Nat} (hc : w.cell? ⟨b, o, none⟩ = some (.slice a n c)) {g cap : Nat} {us : List Value} {w1 : World}
    (s1 : Sl w1 e sz (some ⟨g, 0, none⟩) (n + 1) cap [g] (xs ++ us)) (U : Upd fp w w1) (F : g ∈ fp ∨ w.heap.size ≤ g) :
    BoxL b o e sz (n + 1) [g] (xs ++ us) (w1.setCell ⟨b, o, none⟩ (.slice (some ⟨g, 0, none⟩) (n + 1) cap)) ∧ Upd (b :: fp) w (w1.setCell ⟨b, o, none⟩ (.slice (some ⟨g, 0, none⟩) (n + 1) cap)) ∧ ∀ k ∈ [b, g], (k ∈ b :: fp ∨ w.heap.size ≤ k) ∧ k < (w1.setCell ⟨b, o, none⟩ (.slice (some ⟨g, 0, none⟩) (n + 1) cap)).heap.size := by
  obtain ⟨a', c', h1, h2, h3⟩ := h.lies
  have hbl : b < w.heap.size := World.block_lt_of_cell? _ _ h1
  have hbg : g ≠ b := by
    rintro rfl
    rcases F with z | z
    · exact h.nb z
    · omega
  have st := Upd.store w1 b o (.slice (some ⟨g, 0, none⟩) (n + 1) cap)
  have c1 := U.cell h1 h.nb
  have gl : g < w1.heap.size := s1.lt g (by simp)
  refine ⟨⟨⟨_, _, set_same c1, set_free (U.free hbl h2 h.nb), s1.keep st (by simpa using hbg)⟩, by simpa using fun z => hbg z.symm, by simp⟩, (U.mono (fun k hk => .inl (by simp [hk]))).trans st (fun k hk => .inl (by simp at hk; simp [hk])), ?_⟩
  have e1 : (w1.setCell ⟨b, o, none⟩ (.slice (some ⟨g, 0, none⟩) (n + 1) cap)).heap.size = w1.heap.size := by simp [World.setCell]
  intro k hk
  rw [e1]
  simp at hk
  rcases hk with rfl | rfl
  · exact ⟨.inl (by simp), by have := U.size; omega⟩
  · refine ⟨?_, gl⟩
    rcases F with z | z
    · exact .inl (by simp [z])
    · exact .inr z
theorem BoxL.empty {b o : Nat} (e : TypeId) (sz : Nat) {w : World} (h1 : w.cell? ⟨b, o, none⟩ = some (.slice none 0 0)) (h2 : w.frozen? ⟨b, o, none⟩ = false) : BoxL b o e sz 0 [] [] w := ⟨⟨none, 0, h1, h2, Sl.empty _ _ _⟩, by simp, by simp⟩
/-- A block of cells turned in one place. -/
theorem BlkIs.set {b : Nat} {t : TypeId} {cs : Array Value} {w : World} (h : BlkIs b t cs w) (j : Nat) (v : Value) : BlkIs b t (cs.setIfInBounds j v) (w.setCell ⟨b, j, none⟩ v) := Blk.store h j v
end Go.Proofs.YbulkctquGreatFmt

/-
  components' own memory.
-/
import Derived.Test.YbulkctquGreatFmtHeaps3
import Derived.Test.YbulkctquGreatFmtHeap2
import Derived.Test.YbulkctquGreatFmtView0
namespace Go.Proofs.YbulkctquGreatFmt
open Go.ChangeShapes Go.WideShapes Go.ChangeAt Go.RowKit Go.Ord
set_option linter.unusedVariables false

def iI (z : Int) : Value := .int .i64 z
def frC (p : Nat × Nat) : List Value := [nI p.1, nI p.2]
/-- What components owns: behind w0's blocks: the rows of visit, low, comp and the boxes of visit, low, open, calls, reached; then the rows of open, calls, size. -/
structure CA (w0 w : World) (N : Nat) (vis low : List Nat) (cmp : List Int) (opn : List Nat) (cal : List (Nat × Nat)) (rch : Nat) (siz : List Nat) (vS : SV) (f8 f9 fS : List Nat) : Prop where
  bel : Below w0.heap.size w0 w
  c5 : w.cell? ⟨w0.heap.size + 1, 0, none⟩ = some (.slice (some ⟨w0.heap.size, 0, none⟩) N N)
  c6 : w.cell? ⟨w0.heap.size + 3, 0, none⟩ = some (.slice (some ⟨w0.heap.size + 2, 0, none⟩) N N)
  s5 : Sl w 3 1 (some ⟨w0.heap.size, 0, none⟩) N N [w0.heap.size] (vis.map nI)
  s6 : Sl w 3 1 (some ⟨w0.heap.size + 2, 0, none⟩) N N [w0.heap.size + 2] (low.map nI)
  s2 : Sl w 3 1 (some ⟨w0.heap.size + 4, 0, none⟩) N N [w0.heap.size + 4] (cmp.map iI)
  o8 : ∃ a c, HpG w (w0.heap.size + 5) a opn.length c f8 opn
  o9 : ∃ a c, w.cell? ⟨w0.heap.size + 6, 0, none⟩ = some (.slice a cal.length c) ∧ w.frozen? ⟨w0.heap.size + 6, 0, none⟩ = false ∧ Sl w 150 2 a cal.length c f9 (cal.flatMap frC)
  c10 : w.cell? ⟨w0.heap.size + 7, 0, none⟩ = some (.int .i64 rch)
  z10 : w.frozen? ⟨w0.heap.size + 7, 0, none⟩ = false
  sz : Sl w 3 1 vS.a vS.n vS.c fS (siz.map nI)
  nd : (f8 ++ (f9 ++ fS)).Nodup
  lo : ∀ k ∈ f8 ++ (f9 ++ fS), w0.heap.size + 8 ≤ k
  big : w0.heap.size + 8 ≤ w.heap.size
section
variable {w0 w w' : World} {N : Nat} {vis low : List Nat} {cmp : List Int} {opn : List Nat} {cal : List (Nat × Nat)} {rch : Nat} {siz : List Nat} {vS : SV} {f8 f9 fS : List Nat}
/-- Of the fixed blocks nothing but what S says turns. -/
theorem CA.lt (h : CA w0 w N vis low cmp opn cal rch siz vS f8 f9 fS) : ∀ k ∈ f8 ++ (f9 ++ fS), k < w.heap.size := by
  obtain ⟨a8, e8, h8⟩ := h.o8
  obtain ⟨a9, e9, _, _, h9⟩ := h.o9
  intro k hk
  simp only [List.mem_append] at hk
  rcases hk with hk | hk | hk
  · exact h8.row.lt k hk
  · exact h9.lt k hk
  · exact h.sz.lt k hk
theorem CA.k8 (h : CA w0 w N vis low cmp opn cal rch siz vS f8 f9 fS) {S : List Nat} (hu : Upd S w w') (h1 : w0.heap.size + 5 ∉ S) (h2 : ∀ k ∈ f8, k ∉ S) : ∃ a c, HpG w' (w0.heap.size + 5) a opn.length c f8 opn := by
  obtain ⟨a, c, h3⟩ := h.o8
  exact ⟨a, c, h3.keep hu h1 h2⟩
theorem CA.k9 (h : CA w0 w N vis low cmp opn cal rch siz vS f8 f9 fS) {S : List Nat} (hu : Upd S w w') (h1 : w0.heap.size + 6 ∉ S) (h2 : ∀ k ∈ f9, k ∉ S) : ∃ a c, w'.cell? ⟨w0.heap.size + 6, 0, none⟩ = some (.slice a cal.length c) ∧ w'.frozen? ⟨w0.heap.size + 6, 0, none⟩ = false ∧ Sl w' 150 2 a cal.length c f9 (cal.flatMap frC) := by
  obtain ⟨a, c, h3, h4, h5⟩ := h.o9
  exact ⟨a, c, hu.cell h3 h1, hu.free (World.block_lt_of_cell? _ _ h3) h4 h1, h5.keep hu h2⟩
theorem CA.fix (h : CA w0 w N vis low cmp opn cal rch siz vS f8 f9 fS) {j : Nat} (hj : j < 8) : ∀ k ∈ f8 ++ (f9 ++ fS), k ∉ [w0.heap.size + j] := by
  intro k hk hm
  have := h.lo k hk
  simp at hm; omega
theorem CA.draws (h : CA w0 w N vis low cmp opn cal rch siz vS f8 f9 fS) (hu : Upd [] w w') : CA w0 w' N vis low cmp opn cal rch siz vS f8 f9 fS :=
  ⟨h.bel.trans (hu.below h.bel.size (by simp)), hu.cell h.c5 (by simp), hu.cell h.c6 (by simp), h.s5.keep hu (by simp), h.s6.keep hu (by simp), h.s2.keep hu (by simp), h.k8 hu (by simp) (by simp), h.k9 hu (by simp) (by simp), hu.cell h.c10 (by simp), hu.free (World.block_lt_of_cell? _ _ h.c10) h.z10 (by simp), h.sz.keep hu (by simp), h.nd, h.lo, Nat.le_trans h.big hu.size⟩
theorem CA.m8 (h : CA w0 w N vis low cmp opn cal rch siz vS f8 f9 fS) {k : Nat} (hk : k ∈ f8) : k ∈ f8 ++ (f9 ++ fS) := by simp [hk]
theorem CA.m9 (h : CA w0 w N vis low cmp opn cal rch siz vS f8 f9 fS) {k : Nat} (hk : k ∈ f9) : k ∈ f8 ++ (f9 ++ fS) := by simp [hk]
theorem CA.mS (h : CA w0 w N vis low cmp opn cal rch siz vS f8 f9 fS) {k : Nat} (hk : k ∈ fS) : k ∈ f8 ++ (f9 ++ fS) := by simp [hk]
theorem CA.setVis (h : CA w0 w N vis low cmp opn cal rch siz vS f8 f9 fS) (i x : Nat) : CA w0 (w.setCell ⟨w0.heap.size, i, none⟩ (nI x)) N (vis.set i x) low cmp opn cal rch siz vS f8 f9 fS := by
  have hu := Upd.store w w0.heap.size i (nI x)
  have f := h.fix (j := 0) (by omega)
  have s := h.s5.store i (nI x)
  rw [← List.map_set] at s
  exact ⟨h.bel.trans (hu.below h.bel.size (by simp)), hu.cell h.c5 (by simp), hu.cell h.c6 (by simp), s, h.s6.keep hu (by simp), h.s2.keep hu (by simp), h.k8 hu (by simp) (fun k hk => f k (h.m8 hk)), h.k9 hu (by simp) (fun k hk => f k (h.m9 hk)), hu.cell h.c10 (by simp), hu.free (World.block_lt_of_cell? _ _ h.c10) h.z10 (by simp), h.sz.keep hu (fun k hk => f k (h.mS hk)), h.nd, h.lo, Nat.le_trans h.big hu.size⟩
theorem CA.setLow (h : CA w0 w N vis low cmp opn cal rch siz vS f8 f9 fS) (i x : Nat) : CA w0 (w.setCell ⟨w0.heap.size + 2, i, none⟩ (nI x)) N vis (low.set i x) cmp opn cal rch siz vS f8 f9 fS := by
  have hu := Upd.store w (w0.heap.size + 2) i (nI x)
  have f := h.fix (j := 2) (by omega)
  have s := h.s6.store i (nI x)
  rw [← List.map_set] at s
  exact ⟨h.bel.trans (hu.below h.bel.size (by simp)), hu.cell h.c5 (by simp), hu.cell h.c6 (by simp), h.s5.keep hu (by simp), s, h.s2.keep hu (by simp), h.k8 hu (by simp) (fun k hk => f k (h.m8 hk)), h.k9 hu (by simp) (fun k hk => f k (h.m9 hk)), hu.cell h.c10 (by simp), hu.free (World.block_lt_of_cell? _ _ h.c10) h.z10 (by simp), h.sz.keep hu (fun k hk => f k (h.mS hk)), h.nd, h.lo, Nat.le_trans h.big hu.size⟩
theorem CA.setCmp (h : CA w0 w N vis low cmp opn cal rch siz vS f8 f9 fS) (i : Nat) (x : Int) : CA w0 (w.setCell ⟨w0.heap.size + 4, i, none⟩ (iI x)) N vis low (cmp.set i x) opn cal rch siz vS f8 f9 fS := by
  have hu := Upd.store w (w0.heap.size + 4) i (iI x)
  have f := h.fix (j := 4) (by omega)
  have s := h.s2.store i (iI x)
  rw [← List.map_set] at s
  exact ⟨h.bel.trans (hu.below h.bel.size (by simp)), hu.cell h.c5 (by simp), hu.cell h.c6 (by simp), h.s5.keep hu (by simp), h.s6.keep hu (by simp), s, h.k8 hu (by simp) (fun k hk => f k (h.m8 hk)), h.k9 hu (by simp) (fun k hk => f k (h.m9 hk)), hu.cell h.c10 (by simp), hu.free (World.block_lt_of_cell? _ _ h.c10) h.z10 (by simp), h.sz.keep hu (fun k hk => f k (h.mS hk)), h.nd, h.lo, Nat.le_trans h.big hu.size⟩
theorem CA.setRch (h : CA w0 w N vis low cmp opn cal rch siz vS f8 f9 fS) (x : Nat) : CA w0 (w.setCell ⟨w0.heap.size + 7, 0, none⟩ (nI x)) N vis low cmp opn cal x siz vS f8 f9 fS := by
  have hu := Upd.store w (w0.heap.size + 7) 0 (nI x)
  have f := h.fix (j := 7) (by omega)
  exact ⟨h.bel.trans (hu.below h.bel.size (by simp)), hu.cell h.c5 (by simp), hu.cell h.c6 (by simp), h.s5.keep hu (by simp), h.s6.keep hu (by simp), h.s2.keep hu (by simp), h.k8 hu (by simp) (fun k hk => f k (h.m8 hk)), h.k9 hu (by simp) (fun k hk => f k (h.m9 hk)), set_same h.c10, set_free h.z10, h.sz.keep hu (fun k hk => f k (h.mS hk)), h.nd, h.lo, Nat.le_trans h.big hu.size⟩
theorem CA.newOpn (h : CA w0 w N vis low cmp opn cal rch siz vS f8 f9 fS) {opn' f8' : List Nat} (ho : ∃ a c, HpG w' (w0.heap.size + 5) a opn'.length c f8' opn') (hu : Upd ((w0.heap.size + 5) :: f8) w w') (hf : ∀ k ∈ f8', k ∈ f8 ∨ w.heap.size ≤ k) (hn : f8'.Nodup) : CA w0 w' N vis low cmp opn' cal rch siz vS f8' f9 fS := by
  have nd := h.nd
  simp only [List.nodup_append, List.mem_append] at nd
  have lo := h.lo
  have lt := h.lt
  have big := h.big
  have a : ∀ j, j < 8 → j ≠ 5 → w0.heap.size + j ∉ (w0.heap.size + 5) :: f8 := by
    intro j hj h5 hm
    simp only [List.mem_cons] at hm
    rcases hm with hm | hm
    · omega
    · have := lo _ (h.m8 hm); omega
  have b : ∀ k, k ∈ f9 ∨ k ∈ fS → k ∉ (w0.heap.size + 5) :: f8 := by
    intro k hk hm
    simp only [List.mem_cons] at hm
    rcases hm with rfl | hm
    · have := lo _ (by simp only [List.mem_append]; exact .inr hk); omega
    · exact nd.2.2 k hm k hk rfl
  refine ⟨h.bel.trans (hu.below h.bel.size (by intro k hk; simp only [List.mem_cons] at hk; rcases hk with rfl | hk; omega; have := lo _ (h.m8 hk); omega)), hu.cell h.c5 (a 1 (by omega) (by omega)), hu.cell h.c6 (a 3 (by omega) (by omega)), h.s5.keep hu (by simpa using a 0 (by omega) (by omega)), h.s6.keep hu (by simpa using a 2 (by omega) (by omega)), h.s2.keep hu (by simpa using a 4 (by omega) (by omega)), ho, h.k9 hu (a 6 (by omega) (by omega)) (fun k hk => b k (.inl hk)), hu.cell h.c10 (a 7 (by omega) (by omega)), hu.free (World.block_lt_of_cell? _ _ h.c10) h.z10 (a 7 (by omega) (by omega)), h.sz.keep hu (fun k hk => b k (.inr hk)), ?_, ?_, Nat.le_trans big hu.size⟩
  · simp only [List.nodup_append, List.mem_append]
    refine ⟨hn, nd.2.1, ?_⟩
    intro x hx y hy e
    subst e
    rcases hf x hx with h1 | h1
    · exact nd.2.2 x h1 x hy rfl
    · have := lt x (by simp only [List.mem_append]; exact .inr hy); omega
  · intro k hk
    simp only [List.mem_append] at hk
    rcases hk with hk | hk
    · rcases hf k hk with h1 | h1
      · exact lo k (h.m8 h1)
      · omega
    · exact lo k (by simp only [List.mem_append]; exact .inr hk)
theorem CA.newCal (h : CA w0 w N vis low cmp opn cal rch siz vS f8 f9 fS) {cal' : List (Nat × Nat)} {f9' : List Nat} (ho : ∃ a c, w'.cell? ⟨w0.heap.size + 6, 0, none⟩ = some (.slice a cal'.length c) ∧ w'.frozen? ⟨w0.heap.size + 6, 0, none⟩ = false ∧ Sl w' 150 2 a cal'.length c f9' (cal'.flatMap frC)) (hu : Upd ((w0.heap.size + 6) :: f9) w w') (hf : ∀ k ∈ f9', k ∈ f9 ∨ w.heap.size ≤ k) (hn : f9'.Nodup) : CA w0 w' N vis low cmp opn cal' rch siz vS f8 f9' fS := by
  have nd := h.nd
  simp only [List.nodup_append, List.mem_append] at nd
  have lo := h.lo
  have lt := h.lt
  have big := h.big
  have a : ∀ j, j < 8 → j ≠ 6 → w0.heap.size + j ∉ (w0.heap.size + 6) :: f9 := by
    intro j hj h5 hm
    simp only [List.mem_cons] at hm
    rcases hm with hm | hm
    · omega
    · have := lo _ (h.m9 hm); omega
  have b : ∀ k, k ∈ f8 ∨ k ∈ fS → k ∉ (w0.heap.size + 6) :: f9 := by
    intro k hk hm
    simp only [List.mem_cons] at hm
    rcases hm with rfl | hm
    · have := lo (w0.heap.size + 6) (by rcases hk with e | e; exact h.m8 e; exact h.mS e); omega
    · rcases hk with hk | hk
      · exact nd.2.2 k hk k (.inl hm) rfl
      · exact nd.2.1.2.2 k hm k hk rfl
  refine ⟨h.bel.trans (hu.below h.bel.size (by intro k hk; simp only [List.mem_cons] at hk; rcases hk with rfl | hk; omega; have := lo _ (h.m9 hk); omega)), hu.cell h.c5 (a 1 (by omega) (by omega)), hu.cell h.c6 (a 3 (by omega) (by omega)), h.s5.keep hu (by simpa using a 0 (by omega) (by omega)), h.s6.keep hu (by simpa using a 2 (by omega) (by omega)), h.s2.keep hu (by simpa using a 4 (by omega) (by omega)), h.k8 hu (a 5 (by omega) (by omega)) (fun k hk => b k (.inl hk)), ho, hu.cell h.c10 (a 7 (by omega) (by omega)), hu.free (World.block_lt_of_cell? _ _ h.c10) h.z10 (a 7 (by omega) (by omega)), h.sz.keep hu (fun k hk => b k (.inr hk)), ?_, ?_, Nat.le_trans big hu.size⟩
  · simp only [List.nodup_append, List.mem_append]
    refine ⟨nd.1, ⟨hn, nd.2.1.2.1, ?_⟩, ?_⟩
    · intro x hx y hy e
      subst e
      rcases hf x hx with h1 | h1
      · exact nd.2.1.2.2 x h1 x hy rfl
      · have := lt x (by simp [hy]); omega
    · intro x hx y hy e
      subst e
      rcases hy with hy | hy
      · rcases hf x hy with h1 | h1
        · exact nd.2.2 x hx x (.inl h1) rfl
        · have := lt x (by simp [hx]); omega
      · exact nd.2.2 x hx x (.inr hy) rfl
  · intro k hk
    simp only [List.mem_append] at hk
    rcases hk with hk | hk | hk
    · exact lo k (h.m8 hk)
    · rcases hf k hk with h1 | h1
      · exact lo k (h.m9 h1)
      · omega
    · exact lo k (h.mS hk)
theorem CA.newSiz (h : CA w0 w N vis low cmp opn cal rch siz vS f8 f9 fS) {siz' fS' : List Nat} {vS' : SV} (ho : Sl w' 3 1 vS'.a vS'.n vS'.c fS' (siz'.map nI)) (hu : Upd fS w w') (hf : ∀ k ∈ fS', k ∈ fS ∨ w.heap.size ≤ k) (hn : fS'.Nodup) : CA w0 w' N vis low cmp opn cal rch siz' vS' f8 f9 fS' := by
  have nd := h.nd
  simp only [List.nodup_append, List.mem_append] at nd
  have lo := h.lo
  have lt := h.lt
  have big := h.big
  have a : ∀ j, j < 8 → w0.heap.size + j ∉ fS := by
    intro j hj hm
    have := lo _ (h.mS hm); omega
  refine ⟨h.bel.trans (hu.below h.bel.size (by intro k hk; have := lo _ (h.mS hk); omega)), hu.cell h.c5 (a 1 (by omega)), hu.cell h.c6 (a 3 (by omega)), h.s5.keep hu (by simpa using a 0 (by omega)), h.s6.keep hu (by simpa using a 2 (by omega)), h.s2.keep hu (by simpa using a 4 (by omega)), h.k8 hu (a 5 (by omega)) (fun k hk hm => nd.2.2 k hk k (.inr hm) rfl), h.k9 hu (a 6 (by omega)) (fun k hk hm => nd.2.1.2.2 k hk k hm rfl), hu.cell h.c10 (a 7 (by omega)), hu.free (World.block_lt_of_cell? _ _ h.c10) h.z10 (a 7 (by omega)), ho, ?_, ?_, Nat.le_trans big hu.size⟩
  · simp only [List.nodup_append, List.mem_append]
    refine ⟨nd.1, ⟨nd.2.1.1, hn, ?_⟩, ?_⟩
    · intro x hx y hy e
      subst e
      rcases hf x hy with h1 | h1
      · exact nd.2.1.2.2 x hx x h1 rfl
      · have := lt x (by simp [hx]); omega
    · intro x hx y hy e
      subst e
      rcases hy with hy | hy
      · exact nd.2.2 x hx x (.inl hy) rfl
      · rcases hf x hy with h1 | h1
        · exact nd.2.2 x hx x (.inr h1) rfl
        · have := lt x (by simp [hx]); omega
  · intro k hk
    simp only [List.mem_append] at hk
    rcases hk with hk | hk | hk
    · exact lo k (h.m8 hk)
    · exact lo k (h.m9 hk)
    · rcases hf k hk with h1 | h1
      · exact lo k (h.mS h1)
      · omega
end
end Go.Proofs.YbulkctquGreatFmt

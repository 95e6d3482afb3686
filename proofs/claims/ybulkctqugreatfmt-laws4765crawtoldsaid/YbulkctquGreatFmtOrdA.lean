/-
  order's own memory, and its closure.
-/
import Derived.Test.YbulkctquGreatFmtHeaps3
import Derived.Test.YbulkctquGreatFmtView0
namespace Go.Proofs.YbulkctquGreatFmt
open Go.ChangeShapes Go.WideShapes Go.ChangeAt Go.RowKit Go.Ord
set_option linter.unusedVariables false
attribute [local go_sem ↓] Go.wp_at_zero Go.wp_at_succ

/-- What order owns: the counts, the nodes passed, the nodes ready, the nodes placed. -/
structure OA (w0 w : World) (bg bp bq bh d o N : Nat) (pre Q R P : List Nat) (vP : SV) (fQ fR fP : List Nat) : Prop where
  bel : Below w0.heap.size w0 w
  cg : w.cell? ⟨bg, 0, none⟩ = some (.pointer (some ⟨d, o, none⟩))
  rp : Sl w 3 1 (some ⟨bp, 0, none⟩) N N [bp] (pre.map nI)
  q : ∃ aQ cQ, HpG w bq aQ Q.length cQ fQ Q
  r : ∃ aR cR, HpG w bh aR R.length cR fR R
  hp : Hp R R.length
  p : Sl w 3 1 vP.a vP.n vP.c fP (P.map nI)
  nd : (bg :: bp :: bq :: bh :: (fQ ++ (fR ++ fP))).Nodup
  lo : ∀ k ∈ bg :: bp :: bq :: bh :: (fQ ++ (fR ++ fP)), w0.heap.size ≤ k
section
variable {w0 w w' : World} {bg bp bq bh d o N : Nat} {pre Q R P : List Nat} {vP : SV} {fQ fR fP : List Nat}
theorem OA.lt (h : OA w0 w bg bp bq bh d o N pre Q R P vP fQ fR fP) : ∀ k ∈ bg :: bp :: bq :: bh :: (fQ ++ (fR ++ fP)), k < w.heap.size := by
  obtain ⟨aQ, cQ, hq⟩ := h.q
  obtain ⟨aR, cR, hr⟩ := h.r
  intro k hk
  simp only [List.mem_cons, List.mem_append] at hk
  rcases hk with rfl | rfl | rfl | rfl | hk | hk | hk
  · exact World.block_lt_of_cell? _ _ h.cg
  · exact h.rp.lt _ (by simp)
  · exact hq.lt
  · exact hr.lt
  · exact hq.row.lt k hk
  · exact hr.row.lt k hk
  · exact h.p.lt k hk
theorem OA.plen (h : OA w0 w bg bp bq bh d o N pre Q R P vP fQ fR fP) : vP.n = P.length := by have := h.p.len; simpa using this.symm
theorem OA.prelen (h : OA w0 w bg bp bq bh d o N pre Q R P vP fQ fR fP) : pre.length = N := by have := h.rp.len; simpa using this
theorem OA.draws (h : OA w0 w bg bp bq bh d o N pre Q R P vP fQ fR fP) (hu : Upd [] w w') : OA w0 w' bg bp bq bh d o N pre Q R P vP fQ fR fP := by
  obtain ⟨aQ, cQ, hq⟩ := h.q
  obtain ⟨aR, cR, hr⟩ := h.r
  exact ⟨h.bel.trans (hu.below h.bel.size (by simp)), hu.cell h.cg (by simp), h.rp.keep hu (by simp), ⟨aQ, cQ, hq.keep hu (by simp) (by simp)⟩, ⟨aR, cR, hr.keep hu (by simp) (by simp)⟩, h.hp, h.p.keep hu (by simp), h.nd, h.lo⟩
theorem OA.setPre (h : OA w0 w bg bp bq bh d o N pre Q R P vP fQ fR fP) (i x : Nat) : OA w0 (w.setCell ⟨bp, i, none⟩ (nI x)) bg bp bq bh d o N (pre.set i x) Q R P vP fQ fR fP := by
  obtain ⟨aQ, cQ, hq⟩ := h.q
  obtain ⟨aR, cR, hr⟩ := h.r
  have hu := Upd.store w bp i (nI x)
  have nd := h.nd
  simp only [List.nodup_cons, List.mem_cons, List.mem_append, not_or] at nd
  have s := h.rp.store i (nI x)
  rw [← List.map_set] at s
  have a1 : ∀ k, k ∈ fQ ∨ k ∈ fR ∨ k ∈ fP → k ∉ [bp] := by
    intro k hk hm; simp at hm; subst hm
    rcases hk with hk | hk | hk
    · exact nd.2.1.2.2.1 hk
    · exact nd.2.1.2.2.2.1 hk
    · exact nd.2.1.2.2.2.2 hk
  have e1 : bg ∉ [bp] := by simpa using nd.1.1
  have e2 : bq ∉ [bp] := by simpa using Ne.symm nd.2.1.1
  have e3 : bh ∉ [bp] := by simpa using Ne.symm nd.2.1.2.1
  refine ⟨h.bel.trans (hu.below h.bel.size (by intro k hk; simp at hk; subst hk; exact h.lo _ (by simp))), hu.cell h.cg e1, s, ⟨aQ, cQ, hq.keep hu e2 (fun k hk => a1 k (.inl hk))⟩, ⟨aR, cR, hr.keep hu e3 (fun k hk => a1 k (.inr (.inl hk)))⟩, h.hp, h.p.keep hu (fun k hk => a1 k (.inr (.inr hk))), h.nd, h.lo⟩
/-- The nodes passed, anew. -/
theorem OA.newQ (h : OA w0 w bg bp bq bh d o N pre Q R P vP fQ fR fP) {Q' fQ' : List Nat} (hq : ∃ aQ cQ, HpG w' bq aQ Q'.length cQ fQ' Q') (hu : Upd (bq :: fQ) w w') (hf : ∀ k ∈ fQ', k ∈ fQ ∨ w.heap.size ≤ k) (hn : fQ'.Nodup) : OA w0 w' bg bp bq bh d o N pre Q' R P vP fQ' fR fP := by
  obtain ⟨aR, cR, hr⟩ := h.r
  obtain ⟨aQ, cQ, hq'⟩ := hq
  have lt := h.lt
  have nd := h.nd
  have lo := h.lo
  have nd0 := nd
  simp only [List.nodup_cons, List.mem_cons, List.mem_append, not_or, List.nodup_append] at nd
  have z := h.bel.size
  have a1 : ∀ k, k ∈ fR ∨ k ∈ fP → k ∉ bq :: fQ := by
    intro k hk hm
    simp only [List.mem_cons] at hm
    rcases hm with rfl | hm
    · rcases hk with hk | hk
      · exact nd.2.2.1.2.2.1 hk
      · exact nd.2.2.1.2.2.2 hk
    · exact nd.2.2.2.2.2.2 k hm k hk rfl
  have e1 : bg ∉ bq :: fQ := by simp only [List.mem_cons, not_or]; exact ⟨nd.1.2.1, nd.1.2.2.2.1⟩
  have e2 : bp ∉ bq :: fQ := by simp only [List.mem_cons, not_or]; exact ⟨nd.2.1.1, nd.2.1.2.2.1⟩
  have e3 : bh ∉ bq :: fQ := by simp only [List.mem_cons, not_or]; exact ⟨Ne.symm nd.2.2.1.1, nd.2.2.2.1.1⟩
  have key : ∀ k, k ∈ bg :: bp :: bq :: bh :: (fR ++ fP) → k ∉ fQ → k ∉ fQ' := by
    intro k hk hnq hm
    rcases hf k hm with h1 | h1
    · exact hnq h1
    · have := lt k (by simp only [List.mem_cons, List.mem_append] at hk ⊢; rcases hk with e | e | e | e | e | e <;> simp [e]); omega
  refine ⟨h.bel.trans (hu.below z (by intro k hk; exact lo k (by simp only [List.mem_cons, List.mem_append] at hk ⊢; rcases hk with e | e <;> simp [e]))), hu.cell h.cg e1, h.rp.keep hu (by simpa using e2), ⟨aQ, cQ, hq'⟩, ⟨aR, cR, hr.keep hu e3 (fun k hk => a1 k (.inl hk))⟩, h.hp, h.p.keep hu (fun k hk => a1 k (.inr hk)), ?_, ?_⟩
  · simp only [List.nodup_cons, List.mem_cons, List.mem_append, not_or, List.nodup_append]
    refine ⟨⟨nd.1.1, nd.1.2.1, nd.1.2.2.1, key bg (by simp) nd.1.2.2.2.1, nd.1.2.2.2.2⟩, ⟨nd.2.1.1, nd.2.1.2.1, key bp (by simp) nd.2.1.2.2.1, nd.2.1.2.2.2⟩, ⟨nd.2.2.1.1, key bq (by simp) nd.2.2.1.2.1, nd.2.2.1.2.2⟩, ⟨key bh (by simp) nd.2.2.2.1.1, nd.2.2.2.1.2⟩, hn, nd.2.2.2.2.2.1, ?_⟩
    intro a ha b hb e
    subst e
    rcases hf a ha with h1 | h1
    · exact nd.2.2.2.2.2.2 a h1 a hb rfl
    · have := lt a (by simp only [List.mem_cons, List.mem_append]; rcases hb with e | e <;> simp [e]); omega
  · intro k hk
    simp only [List.mem_cons, List.mem_append] at hk
    rcases hk with e | e | e | e | e | e | e
    · exact lo k (by simp [e])
    · exact lo k (by simp [e])
    · exact lo k (by simp [e])
    · exact lo k (by simp [e])
    · rcases hf k e with h1 | h1
      · exact lo k (by simp [h1])
      · omega
    · exact lo k (by simp [e])
    · exact lo k (by simp [e])
/-- The nodes ready, anew. -/
theorem OA.newR (h : OA w0 w bg bp bq bh d o N pre Q R P vP fQ fR fP) {R' fR' : List Nat} (hr : ∃ aR cR, HpG w' bh aR R'.length cR fR' R') (hp : Hp R' R'.length) (hu : Upd (bh :: fR) w w') (hf : ∀ k ∈ fR', k ∈ fR ∨ w.heap.size ≤ k) (hn : fR'.Nodup) : OA w0 w' bg bp bq bh d o N pre Q R' P vP fQ fR' fP := by
  obtain ⟨aQ, cQ, hq⟩ := h.q
  obtain ⟨aR, cR, hr'⟩ := hr
  have lt := h.lt
  have nd := h.nd
  have lo := h.lo
  simp only [List.nodup_cons, List.mem_cons, List.mem_append, not_or, List.nodup_append] at nd
  have z := h.bel.size
  have a1 : ∀ k, k ∈ fQ ∨ k ∈ fP → k ∉ bh :: fR := by
    intro k hk hm
    simp only [List.mem_cons] at hm
    rcases hm with rfl | hm
    · rcases hk with hk | hk
      · exact nd.2.2.2.1.1 hk
      · exact nd.2.2.2.1.2.2 hk
    · rcases hk with hk | hk
      · exact nd.2.2.2.2.2.2 k hk k (.inl hm) rfl
      · exact nd.2.2.2.2.2.1.2.2 k hm k hk rfl
  have e1 : bg ∉ bh :: fR := by simp only [List.mem_cons, not_or]; exact ⟨nd.1.2.2.1, nd.1.2.2.2.2.1⟩
  have e2 : bp ∉ bh :: fR := by simp only [List.mem_cons, not_or]; exact ⟨nd.2.1.2.1, nd.2.1.2.2.2.1⟩
  have e3 : bq ∉ bh :: fR := by simp only [List.mem_cons, not_or]; exact ⟨nd.2.2.1.1, nd.2.2.1.2.2.1⟩
  have key : ∀ k, k ∈ bg :: bp :: bq :: bh :: (fQ ++ fP) → k ∉ fR → k ∉ fR' := by
    intro k hk hnq hm
    rcases hf k hm with h1 | h1
    · exact hnq h1
    · have := lt k (by simp only [List.mem_cons, List.mem_append] at hk ⊢; rcases hk with e | e | e | e | e | e <;> simp [e]); omega
  refine ⟨h.bel.trans (hu.below z (by intro k hk; exact lo k (by simp only [List.mem_cons, List.mem_append] at hk ⊢; rcases hk with e | e <;> simp [e]))), hu.cell h.cg e1, h.rp.keep hu (by simpa using e2), ⟨aQ, cQ, hq.keep hu e3 (fun k hk => a1 k (.inl hk))⟩, ⟨aR, cR, hr'⟩, hp, h.p.keep hu (fun k hk => a1 k (.inr hk)), ?_, ?_⟩
  · simp only [List.nodup_cons, List.mem_cons, List.mem_append, not_or, List.nodup_append]
    refine ⟨⟨nd.1.1, nd.1.2.1, nd.1.2.2.1, nd.1.2.2.2.1, key bg (by simp) nd.1.2.2.2.2.1, nd.1.2.2.2.2.2⟩, ⟨nd.2.1.1, nd.2.1.2.1, nd.2.1.2.2.1, key bp (by simp) nd.2.1.2.2.2.1, nd.2.1.2.2.2.2⟩, ⟨nd.2.2.1.1, nd.2.2.1.2.1, key bq (by simp) nd.2.2.1.2.2.1, nd.2.2.1.2.2.2⟩, ⟨nd.2.2.2.1.1, key bh (by simp) nd.2.2.2.1.2.1, nd.2.2.2.1.2.2⟩, nd.2.2.2.2.1, ⟨hn, nd.2.2.2.2.2.1.2.1, ?_⟩, ?_⟩
    · intro a ha b hb e
      subst e
      rcases hf a ha with h1 | h1
      · exact nd.2.2.2.2.2.1.2.2 a h1 a hb rfl
      · have := lt a (by simp [hb]); omega
    · intro a ha b hb e
      subst e
      rcases hb with hb | hb
      · exact key a (by simp [ha]) (fun hm => nd.2.2.2.2.2.2 a ha a (.inl hm) rfl) hb
      · exact nd.2.2.2.2.2.2 a ha a (.inr hb) rfl
  · intro k hk
    simp only [List.mem_cons, List.mem_append] at hk
    rcases hk with e | e | e | e | e | e | e
    · exact lo k (by simp [e])
    · exact lo k (by simp [e])
    · exact lo k (by simp [e])
    · exact lo k (by simp [e])
    · exact lo k (by simp [e])
    · rcases hf k e with h1 | h1
      · exact lo k (by simp [h1])
      · omega
    · exact lo k (by simp [e])
/-- The nodes placed, anew. -/
theorem OA.newP (h : OA w0 w bg bp bq bh d o N pre Q R P vP fQ fR fP) {P' fP' : List Nat} {vP' : SV} (hp : Sl w' 3 1 vP'.a vP'.n vP'.c fP' (P'.map nI)) (hu : Upd fP w w') (hf : ∀ k ∈ fP', k ∈ fP ∨ w.heap.size ≤ k) (hn : fP'.Nodup) : OA w0 w' bg bp bq bh d o N pre Q R P' vP' fQ fR fP' := by
  obtain ⟨aQ, cQ, hq⟩ := h.q
  obtain ⟨aR, cR, hr⟩ := h.r
  have lt := h.lt
  have nd := h.nd
  have lo := h.lo
  simp only [List.nodup_cons, List.mem_cons, List.mem_append, not_or, List.nodup_append] at nd
  have z := h.bel.size
  have a1 : ∀ k, k ∈ fQ ∨ k ∈ fR → k ∉ fP := by
    intro k hk hm
    rcases hk with hk | hk
    · exact nd.2.2.2.2.2.2 k hk k (.inr hm) rfl
    · exact nd.2.2.2.2.2.1.2.2 k hk k hm rfl
  have key : ∀ k, k ∈ bg :: bp :: bq :: bh :: (fQ ++ fR) → k ∉ fP → k ∉ fP' := by
    intro k hk hnq hm
    rcases hf k hm with h1 | h1
    · exact hnq h1
    · have := lt k (by simp only [List.mem_cons, List.mem_append] at hk ⊢; rcases hk with e | e | e | e | e | e <;> simp [e]); omega
  refine ⟨h.bel.trans (hu.below z (by intro k hk; exact lo k (by simp [hk]))), hu.cell h.cg nd.1.2.2.2.2.2, h.rp.keep hu (by simpa using nd.2.1.2.2.2.2), ⟨aQ, cQ, hq.keep hu nd.2.2.1.2.2.2 (fun k hk => a1 k (.inl hk))⟩, ⟨aR, cR, hr.keep hu nd.2.2.2.1.2.2 (fun k hk => a1 k (.inr hk))⟩, h.hp, hp, ?_, ?_⟩
  · simp only [List.nodup_cons, List.mem_cons, List.mem_append, not_or, List.nodup_append]
    refine ⟨⟨nd.1.1, nd.1.2.1, nd.1.2.2.1, nd.1.2.2.2.1, nd.1.2.2.2.2.1, key bg (by simp) nd.1.2.2.2.2.2⟩, ⟨nd.2.1.1, nd.2.1.2.1, nd.2.1.2.2.1, nd.2.1.2.2.2.1, key bp (by simp) nd.2.1.2.2.2.2⟩, ⟨nd.2.2.1.1, nd.2.2.1.2.1, nd.2.2.1.2.2.1, key bq (by simp) nd.2.2.1.2.2.2⟩, ⟨nd.2.2.2.1.1, nd.2.2.2.1.2.1, key bh (by simp) nd.2.2.2.1.2.2⟩, nd.2.2.2.2.1, ⟨nd.2.2.2.2.2.1.1, hn, ?_⟩, ?_⟩
    · intro a ha b hb e
      subst e
      exact key a (by simp [ha]) (a1 a (.inr ha)) hb
    · intro a ha b hb e
      subst e
      rcases hb with hb | hb
      · exact nd.2.2.2.2.2.2 a ha a (.inl hb) rfl
      · exact key a (by simp [ha]) (a1 a (.inl ha)) hb
  · intro k hk
    simp only [List.mem_cons, List.mem_append] at hk
    rcases hk with e | e | e | e | e | e | e
    · exact lo k (by simp [e])
    · exact lo k (by simp [e])
    · exact lo k (by simp [e])
    · exact lo k (by simp [e])
    · exact lo k (by simp [e])
    · exact lo k (by simp [e])
    · rcases hf k e with h1 | h1
      · exact lo k (by simp [h1])
      · omega
end
end Go.Proofs.YbulkctquGreatFmt

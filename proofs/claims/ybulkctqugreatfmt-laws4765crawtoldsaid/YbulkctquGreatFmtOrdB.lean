/-
  order's closure.
-/
import Derived.Test.YbulkctquGreatFmtOrdA
namespace Go.Proofs.YbulkctquGreatFmt
open Go.ChangeShapes Go.WideShapes Go.ChangeAt Go.RowKit Go.Ord
set_option linter.unusedVariables false
attribute [local go_sem ↓] Go.wp_at_zero Go.wp_at_succ

set_option maxHeartbeats 4000000 in
set_option maxRecDepth 100000 in
theorem rel72 {w0 w : World} {bg bp bq bh d o N : Nat} {pre Q R P : List Nat} {vP : SV} {fQ fR fP : List Nat} (H : OA w0 w bg bp bq bh d o N pre Q R P vP fQ fR fP)
    (v : Nat) (j : Bool) (aJ : Option Addr) (kJ M c : Nat) (c1 : w.cell? ⟨d, o + 1, none⟩ = some (.slice (some ⟨c, 0, none⟩) M kJ)) (hv : v < M) (c2 : w.cell? ⟨c, v, none⟩ = some (.bool j)) (hQ : Q.length < 900000) (hR : R.length < 900000) :
    Calls Ybaz.prog 72 #[.int .i64 v, .pointer (some ⟨bg, 0, none⟩), .pointer (some ⟨bq, 0, none⟩), .pointer (some ⟨bh, 0, none⟩)] w fun e w' => e = .returned (.tuple #[]) ∧
      if j then ∃ fQ', OA w0 w' bg bp bq bh d o N pre (Q ++ [v]) R P vP fQ' fR fP else ∃ fR' R', R'.Perm (v :: R) ∧ OA w0 w' bg bp bq bh d o N pre Q R' P vP fQ fR' fP := by
  have HH : Hid _ := H
  have cg := H.cg
  obtain ⟨aQ, cQ, hq⟩ := H.q
  obtain ⟨aR, cR, hr⟩ := H.r
  have HR : Hid _ := hr
  have HQ : Hid _ := hq
  have hb := hq.box
  have hz := hq.fre
  have hlt := hq.lt
  clear H hr hq
  cases j
  · go_enter Ybaz.func72, Ybaz.ntmps72
    go_wp2_with fail
    refine (push73 w bh aR R.length cR fR R HR.out HH.out.hp v (by omega)).mono ?_
    rintro e w1 ⟨rfl, b, c', ys, h1, h2, h3, h4, h5⟩
    have hl := h1.len
    have fin : Hid (∃ fR' R', R'.Perm (v :: R) ∧ OA w0 w1 bg bp bq bh d o N pre Q R' P vP fQ fR' fP) := by
      refine ⟨[b], ys, h2, HH.out.newR ⟨_, c', by rw [← hl]; exact h1.gen⟩ (by rw [← hl]; exact h3) h4 ?_ (by simp)⟩
      intro k hk; simp at hk; subst hk; exact h5
    clear h1 h2 h3 h4 h5 hl
    go_wp2_with fail
    go_end0
    exact ⟨rfl, by simpa using fin.out⟩
  · go_enter Ybaz.func72, Ybaz.ntmps72
    go_wp2_with (first
      | (at_builtin; refine wpList_append_one w _ (Upd.refl [] _) rfl (.tmp 12) (.tmp 14) 83 rfl 3 8 slInts (by decide) aQ Q.length cQ fQ (Q.map nI) rfl HQ.out.row (by simp) _ rfl _ _ rfl (by simp) (by omega) ?_; intro gA cA w1 sA1 uA1 fA1; have q1 := uA1.cell hb (by simpa using HQ.out.ne); have q2 := uA1.free hlt hz (by simpa using HQ.out.ne); have SA1 : Hid _ := sA1; have UA1 : Hid _ := uA1; have FA1 : Hid _ := fA1; clear sA1 uA1 fA1))
    go_end0
    have gb : gA ≠ bq := by
      rintro rfl
      rcases FA1.out with f | f
      · exact HQ.out.ne f
      · omega
    refine ⟨rfl, ?_⟩
    refine ⟨[gA], HH.out.newQ ⟨some ⟨gA, 0, none⟩, cA, ?_⟩ ((UA1.out.mono (T := bq :: fQ) (fun k hk => .inl (by simp at hk; simp [hk]))).trans (Upd.store _ _ _ _) (fun k hk => .inl (by simp at hk; simp [hk]))) ?_ (by simp)⟩
    · refine ⟨by simpa using set_same q1, set_free q2, ?_, by simpa using Ne.symm gb⟩
      have := SA1.out.keep (Upd.store w1 bq 0 (.slice (some ⟨gA, 0, none⟩) (Q.length + 1) cA)) (by simpa using gb)
      simpa [nI] using this
    · intro k hk; simp at hk; subst hk; exact FA1.out
end Go.Proofs.YbulkctquGreatFmt

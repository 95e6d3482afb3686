/-
  components' closure.
-/
import Derived.Test.YbulkctquGreatFmtCompA
import Derived.Deep.DeepCutAuto
namespace Go.Proofs.YbulkctquGreatFmt
open Go.ChangeShapes Go.WideShapes Go.ChangeAt Go.RowKit Go.Ord
set_option linter.unusedVariables false
attribute [local go_sem ↓] Go.wp_at_zero Go.wp_at_succ

theorem slFrames : SliceOf Ybaz.prog 148 150 2 16 := by
  have hi : (Ybaz.prog.info? 150).map (fun i => (i.zero, i.size, i.bytes)) = some (some (.agg #[.int .i64 0, .int .i64 0]), 2, 16) := by kernel_rfl
  obtain ⟨i, h1, h2, h3, h4⟩ := info_parts hi
  exact ⟨by kernel_rfl, i, _, h1, h2, h3, h4, rfl, by decide⟩

set_option maxHeartbeats 8000000 in
set_option maxRecDepth 100000 in
theorem enter40 {w0 w : World} {N : Nat} {vis low : List Nat} {cmp : List Int} {opn : List Nat} {cal : List (Nat × Nat)} {rch : Nat} {siz : List Nat} {vS : SV} {f8 f9 fS : List Nat} (H : CA w0 w N vis low cmp opn cal rch siz vS f8 f9 fS)
    (v : Nat) (hv : v < N) (hr : rch < 1000000) (hN : N < 1000000) (ho : opn.length < 1000000) (hc : cal.length < 1000000) :
    Calls Ybaz.prog 40 #[.int .i64 v, .pointer (some ⟨w0.heap.size + 7, 0, none⟩), .pointer (some ⟨w0.heap.size + 1, 0, none⟩), .pointer (some ⟨w0.heap.size + 3, 0, none⟩), .pointer (some ⟨w0.heap.size + 5, 0, none⟩), .pointer (some ⟨w0.heap.size + 6, 0, none⟩)] w fun e w' => e = .returned (.tuple #[]) ∧
      ∃ f8' f9', CA w0 w' N (vis.set v (rch + 1)) (low.set v (rch + 1)) cmp (opn ++ [v]) (cal ++ [(v, 0)]) (rch + 1) siz vS f8' f9' fS := by
  have HH : Hid _ := H
  have lv : vis.length = N := by have := H.s5.len; simpa using this
  have ll : low.length = N := by have := H.s6.len; simpa using this
  have d1 := H.c10
  have d2 := H.z10
  have d3 := H.c5
  have d4 := H.c6
  obtain ⟨g5, e5, _, lt5, cc5, zz5⟩ := H.s5.has (by omega)
  injection e5 with e5
  injection e5 with e5
  subst e5
  obtain ⟨g6, e6, _, lt6, cc6, zz6⟩ := H.s6.has (by omega)
  injection e6 with e6
  injection e6 with e6
  subst e6
  obtain ⟨x5, hx5⟩ := has_at vis (k := v) (by omega)
  obtain ⟨x6, hx6⟩ := has_at low (k := v) (by omega)
  have d5 := cc5 v (by omega)
  rw [show (vis.map nI)[v]? = some (nI x5) by simp [hx5]] at d5
  have d6 := cc6 v (by omega)
  rw [show (low.map nI)[v]? = some (nI x6) by simp [hx6]] at d6
  have d7 := zz5 v
  have d8 := zz6 v
  unfold nI at d5 d6
  clear cc5 cc6 zz5 zz6 hx5 hx6 H lv ll
  go_enter Ybaz.func40, Ybaz.ntmps40
  go_wp2_with fail
  go_big_region
  have a1 := (((HH.out.setRch (rch + 1)).setVis v (rch + 1)).setLow v (rch + 1)).draws (Upd.drew [] _)
  obtain ⟨w1, hw1⟩ : ∃ z : World, z = (((w.setCell ⟨w0.heap.size + 7, 0, none⟩ (.int .i64 ((rch : Int) + 1))).setCell ⟨w0.heap.size, v, none⟩ (.int .i64 ((rch : Int) + 1))).setCell ⟨w0.heap.size + 2, v, none⟩ (.int .i64 ((rch : Int) + 1))).drew := ⟨_, rfl⟩
  rw [← hw1]
  have a1' : CA w0 w1 N (vis.set v (rch + 1)) (low.set v (rch + 1)) cmp opn cal (rch + 1) siz vS f8 f9 fS := by rw [hw1]; exact a1
  have A1 : Hid _ := a1'
  obtain ⟨a8, k8, h8⟩ := a1'.o8
  obtain ⟨a9, k9, h91, h92, h93⟩ := a1'.o9
  have e1 := h8.box
  have e2 := h8.fre
  have hlt8 := h8.lt
  have hlt9 : w0.heap.size + 6 < w1.heap.size := World.block_lt_of_cell? _ _ h91
  have H8 : Hid _ := h8
  have H9 : Hid _ := h93
  have n58 : Hid (w0.heap.size + 5 ∉ f8) := h8.ne
  have n68 : Hid (w0.heap.size + 6 ∉ f8) := fun hm => by have := a1'.lo _ (a1'.m8 hm); omega
  clear a1 a1' hw1 d1 d2 d3 d4 d5 d6 d7 d8 h8 h93
  go_upto_region 3 with (first
    | (at_builtin; refine wpList_append_one w1 _ (Upd.refl [] _) rfl (.tmp 17) (.tmp 19) 83 rfl 3 8 slInts (by decide) a8 opn.length k8 f8 (opn.map nI) rfl H8.out.row (by simp) _ rfl _ _ rfl (by simp) (by omega) ?_; intro gA cA w2 sA uA fA; go_loud (have q1 := uA.cell e1 (by simpa using n58.out)); go_loud (have q2 := uA.free hlt8 e2 (by simpa using n58.out)); go_loud (have q3 := uA.cell h91 (by simpa using n68.out)); go_loud (have q4 := uA.free hlt9 h92 (by simpa using n68.out)); have hz2 := uA.size; have SA : Hid _ := sA; have UA : Hid _ := uA; have FA : Hid _ := fA; clear sA uA fA))
  have gb : gA ≠ w0.heap.size + 5 := by
    rintro rfl
    rcases FA.out with f | f
    · exact n58.out f
    · omega
  have a2 : CA w0 (w2.setCell ⟨w0.heap.size + 5, 0, none⟩ (.slice (some ⟨gA, 0, none⟩) (opn.length + 1) cA)) N (vis.set v (rch + 1)) (low.set v (rch + 1)) cmp (opn ++ [v]) cal (rch + 1) siz vS [gA] f9 fS := by
    refine A1.out.newOpn ⟨some ⟨gA, 0, none⟩, cA, by simpa using set_same q1, set_free q2, ?_, by simpa using Ne.symm gb⟩ ((UA.out.mono (T := (w0.heap.size + 5) :: f8) (fun k hk => .inl (by simp at hk; simp [hk]))).trans (Upd.store _ _ _ _) (fun k hk => .inl (by simp at hk; simp [hk]))) (fun k hk => by simp at hk; subst hk; exact FA.out) (by simp)
    have := SA.out.keep (Upd.store w2 (w0.heap.size + 5) 0 (.slice (some ⟨gA, 0, none⟩) (opn.length + 1) cA)) (by simpa using gb)
    simpa [nI] using this
  obtain ⟨W3, hW3⟩ : ∃ z : World, z = w2.setCell ⟨w0.heap.size + 5, 0, none⟩ (.slice (some ⟨gA, 0, none⟩) (opn.length + 1) cA) := ⟨_, rfl⟩
  rw [← hW3] at a2 ⊢
  clear hW3 q1 q2 q3 q4 e1 e2 h91 h92 hlt8 hlt9 hz2 gb
  obtain ⟨a9', k9', x1, x2, x3⟩ := a2.o9
  have hlt3 : w0.heap.size + 6 < W3.heap.size := World.block_lt_of_cell? _ _ x1
  have n69 : Hid (w0.heap.size + 6 ∉ f9) := fun hm => by have := a2.lo _ (a2.m9 hm); omega
  have A2 : Hid _ := a2
  have S9 : Hid _ := x3
  clear a2 x3
  go_wp2_with (first
    | (at_builtin; refine wpList_append_elem W3 _ (Upd.refl [] _) rfl (.tmp 21) (.tmp 24) 148 rfl 150 2 16 slFrames (by decide) a9' cal.length k9' f9 (cal.flatMap frC) rfl S9.out (by simp) [.int .i64 v, .int .i64 0] rfl (by simp [Value.oneCell']) _ _ rfl (by simp) (by omega) ?_; intro gB cB w3 sB uB fB; go_loud (have y1 := uB.cell x1 (by simpa using n69.out)); go_loud (have y2 := uB.free hlt3 x2 (by simpa using n69.out)); have SB : Hid _ := sB; have UB : Hid _ := uB; have FB : Hid _ := fB; clear sB uB fB))
  go_end0
  have gc : gB ≠ w0.heap.size + 6 := by
    rintro rfl
    rcases FB.out with f | f
    · exact n69.out f
    · omega
  refine ⟨rfl, [gA], [gB], A2.out.newCal ⟨some ⟨gB, 0, none⟩, cB, by simpa using set_same y1, set_free y2, ?_⟩ ((UB.out.mono (T := (w0.heap.size + 6) :: f9) (fun k hk => .inl (by simp at hk; simp [hk]))).trans (Upd.store _ _ _ _) (fun k hk => .inl (by simp at hk; simp [hk]))) (fun k hk => by simp at hk; subst hk; exact FB.out) (by simp)⟩
  have := SB.out.keep (Upd.store w3 (w0.heap.size + 6) 0 (.slice (some ⟨gB, 0, none⟩) (cal.length + 1) cB)) (by simpa using gc)
  simpa [frC, nI] using this
end Go.Proofs.YbulkctquGreatFmt

/-
  clone.
-/
import Derived.Test.YbulkctquGreatFmtView0
import Derived.Deep.RegionWith
import Derived.BigQuiet
import Derived.Laws.Rows
import Derived.Deep.DeepCutAuto
namespace Go.Proofs.YbulkctquGreatFmt
open Go.ChangeShapes Go.WideShapes Go.ChangeAt Go.RowKit Go.Ord
set_option linter.unusedVariables false

theorem clip70 (w : World) (a : Option Addr) (n c : Nat) (h : n ≤ c) (hs : a = none ∧ c = 0 ∨ ∃ b, a = some ⟨b, 0, none⟩) (hc : c ≤ 9223372036854775807) : Calls Ybaz.prog 70 #[.slice a n c] w fun e w' => e = .returned (.slice a n n) ∧ w' = w := by
  rcases hs with ⟨rfl, rfl⟩ | ⟨b, rfl⟩
  · obtain rfl : n = 0 := by omega
    go_enter Ybaz.func70, Ybaz.ntmps70
    go_wp2_with fail
    go_ret
    exact ⟨rfl, rfl⟩
  · go_enter Ybaz.func70, Ybaz.ntmps70
    go_wp2_with fail
    go_ret
    exact ⟨rfl, rfl⟩
theorem clip71 (w : World) (a : Option Addr) (n c : Nat) (h : n ≤ c) (hs : a = none ∧ c = 0 ∨ ∃ b, a = some ⟨b, 0, none⟩) (hc : c ≤ 9223372036854775807) : Calls Ybaz.prog 71 #[.slice a n c] w fun e w' => e = .returned (.slice a n n) ∧ w' = w := by
  rcases hs with ⟨rfl, rfl⟩ | ⟨b, rfl⟩
  · obtain rfl : n = 0 := by omega
    go_enter Ybaz.func71, Ybaz.ntmps71
    go_wp2_with fail
    go_ret
    exact ⟨rfl, rfl⟩
  · go_enter Ybaz.func71, Ybaz.ntmps71
    go_wp2_with fail
    go_ret
    exact ⟨rfl, rfl⟩

/-- Behind clone's first statement. -/
def CloneAt (w wx : World) (N : Nat) (aJ : Option Addr) (t3 : Value) : Prop :=
  ∃ bS dC : Nat, t3 = .pointer (some ⟨dC, 0, none⟩) ∧ wx.cell? ⟨dC, 0, none⟩ = some (.slice (some ⟨bS, 0, none⟩) N N) ∧ wx.cell? ⟨dC, 1, none⟩ = some (.slice aJ N N) ∧ w.heap.size < bS ∧ w.heap.size < dC ∧ dC ≠ bS ∧ Sl wx 83 1 (some ⟨bS, 0, none⟩) N N [bS] (List.replicate N (.slice none 0 0)) ∧ Blk wx w.heap.size 88 #[.slice none 0 0, .slice none 0 0] ∧ Below w.heap.size w wx
theorem clone_a (w : World) (N : Nat) (aJ : Option Addr) (hN : N < 1000000) :
    CloneAt w (((w.alloc (.cells #[.slice none 0 0, .slice none 0 0] 88)).alloc (.cells (zeros (.slice none 0 0) N).toArray 83)).alloc (.cells #[.slice (some ⟨w.heap.size + 1, 0, none⟩) N N, .slice aJ N N] 88)).drew N aJ (.pointer (some ⟨w.heap.size + 1 + 1, 0, none⟩)) := by
  have s := Sl.made (w.alloc (.cells #[.slice none 0 0, .slice none 0 0] 88)) 83 (.slice none 0 0) 1 N N (Nat.le_refl _) hN
  rw [Nat.mul_one] at s
  have s2 := (s.keep (Upd.alloc [] _ (.cells #[.slice (some ⟨w.heap.size + 1, 0, none⟩) N N, .slice aJ N N] 88)) (by simp)).keep (Upd.drew [] _) (by simp)
  have e : zeros (.slice none 0 0) N = List.replicate N (.slice none 0 0) := zeros_one _ rfl N
  have bk := ((Blk.keep (Blk.keep (Blk.new w #[.slice none 0 0, .slice none 0 0] 88) (Upd.alloc [] _ (.cells (zeros (.slice none 0 0) N).toArray 83)) (by simp)) (Upd.alloc [] _ (.cells #[.slice (some ⟨w.heap.size + 1, 0, none⟩) N N, .slice aJ N N] 88)) (by simp)).keep (Upd.drew [] _) (by simp))
  have bc := (Blk.keep (Blk.new ((w.alloc (.cells #[.slice none 0 0, .slice none 0 0] 88)).alloc (.cells (zeros (.slice none 0 0) N).toArray 83)) #[.slice (some ⟨w.heap.size + 1, 0, none⟩) N N, .slice aJ N N] 88) (Upd.drew [] _) (by simp))
  have z2 : ((w.alloc (.cells #[.slice none 0 0, .slice none 0 0] 88)).alloc (.cells (zeros (.slice none 0 0) N).toArray 83)).heap.size = w.heap.size + 1 + 1 := by simp
  rw [z2] at bc
  refine ⟨w.heap.size + 1, w.heap.size + 1 + 1, rfl, bc.cell 0, bc.cell 1, by omega, by omega, by omega, ?_, bk, ?_⟩
  · rw [e] at s2 ⊢; simpa using s2
  · have B := (((Below.refl w.heap.size w).alloc (Nat.le_refl _) (.cells #[.slice none 0 0, .slice none 0 0] 88)).alloc (by simp) (.cells (zeros (.slice none 0 0) N).toArray 83)).alloc (by simp; omega) (.cells #[.slice (some ⟨w.heap.size + 1, 0, none⟩) N N, .slice aJ N N] 88)
    exact ⟨B.os, B.tape, B.output, B.size, B.block⟩
theorem clone_b (w : World) (N : Nat) (aJ : Option Addr) (hN : N < 1000000) :
    CloneAt w (((w.alloc (.cells #[.slice none 0 0, .slice none 0 0] 88)).alloc (.cells #[.slice (some ⟨w.heap.size + 1 + 1, 0, none⟩) N N, .slice aJ N N] 88)).alloc (.cells (zeros (.slice none 0 0) N).toArray 83)).drew N aJ (.pointer (some ⟨w.heap.size + 1, 0, none⟩)) := by
  have s := Sl.made ((w.alloc (.cells #[.slice none 0 0, .slice none 0 0] 88)).alloc (.cells #[.slice (some ⟨w.heap.size + 1 + 1, 0, none⟩) N N, .slice aJ N N] 88)) 83 (.slice none 0 0) 1 N N (Nat.le_refl _) hN
  rw [Nat.mul_one] at s
  have s2 := s.keep (Upd.drew [] _) (by simp)
  have e : zeros (.slice none 0 0) N = List.replicate N (.slice none 0 0) := zeros_one _ rfl N
  have bk := ((Blk.keep (Blk.keep (Blk.new w #[.slice none 0 0, .slice none 0 0] 88) (Upd.alloc [] _ (.cells #[.slice (some ⟨w.heap.size + 1 + 1, 0, none⟩) N N, .slice aJ N N] 88)) (by simp)) (Upd.alloc [] _ (.cells (zeros (.slice none 0 0) N).toArray 83)) (by simp)).keep (Upd.drew [] _) (by simp))
  have bc := (Blk.keep (Blk.keep (Blk.new (w.alloc (.cells #[.slice none 0 0, .slice none 0 0] 88)) #[.slice (some ⟨w.heap.size + 1 + 1, 0, none⟩) N N, .slice aJ N N] 88) (Upd.alloc [] _ (.cells (zeros (.slice none 0 0) N).toArray 83)) (by simp)) (Upd.drew [] _) (by simp))
  have z2 : (w.alloc (.cells #[.slice none 0 0, .slice none 0 0] 88)).heap.size = w.heap.size + 1 := by simp
  rw [z2] at bc
  refine ⟨w.heap.size + 1 + 1, w.heap.size + 1, rfl, bc.cell 0, bc.cell 1, by omega, by omega, by omega, ?_, bk, ?_⟩
  · rw [e] at s2 ⊢; simpa using s2
  · have B := (((Below.refl w.heap.size w).alloc (Nat.le_refl _) (.cells #[.slice none 0 0, .slice none 0 0] 88)).alloc (by simp) (.cells #[.slice (some ⟨w.heap.size + 1 + 1, 0, none⟩) N N, .slice aJ N N] 88)).alloc (by simp; omega) (.cells (zeros (.slice none 0 0) N).toArray 83)
    exact ⟨B.os, B.tape, B.output, B.size, B.block⟩

set_option maxHeartbeats 8000000 in
set_option maxRecDepth 100000 in
theorem clone46 (w : World) (d o : Nat) (G : List (List Nat)) (J : List Bool) (h : GrR w d o G J) (hl : G.length < 1000000) :
    Calls Ybaz.prog 46 #[.pointer (some ⟨d, o, none⟩)] w fun e w' => ∃ aS kS aJ kJ, e = .returned (.agg #[.slice aS G.length kS, .slice aJ G.length kJ]) ∧ GrV w' aS aJ G J ∧ G.length ≤ kS ∧ (G.length ≤ kJ ∧ kJ ≤ 9223372036854775807) ∧ (aJ = none ∧ kJ = 0 ∨ ∃ c, aJ = some ⟨c, 0, none⟩) ∧ Below w.heap.size w w' := by
  obtain ⟨aS, kS, aJ, kJ, c1, c2, b1, b2, b4, b3⟩ := h.lies
  have hd : d < w.heap.size := World.block_lt_of_cell? _ _ c1
  have hd1 : d < w.heap.size + 1 := by omega
  have HV : Hid _ := b3
  have hm := mkRows.made G.length G.length (Nat.le_refl _) (by omega) (by decide)
  clear h b3
  have K : Hid (∀ W : World, Calls Ybaz.prog 70 #[.slice aJ G.length kJ] W fun e w' => e = .returned (.slice aJ G.length G.length) ∧ w' = W) := fun W => clip70 W aJ G.length kJ b2.1 b4 b2.2
  go_enter Ybaz.func46, Ybaz.ntmps46
  go_upto_region 1 with fail
  go_cut [3] (fun t3 wx => CloneAt w wx G.length aJ t3)
  case first =>
    go_region_with (go_at_call 70; refine (K.out _).mono ?_; rintro e w' ⟨rfl, rfl⟩)
    all_goals go_wp2_with fail
    all_goals go_meet
    all_goals first
      | exact clone_a w G.length aJ hl
      | exact clone_b w G.length aJ hl
  case rest =>
    obtain ⟨bS, dC, rfl, e1, e2, e3, e4, e5, e6, e7, e8⟩ := hcut
    have E6 : Hid _ := e6
    have E7 : Hid (Blk wc w.heap.size 88 #[.slice none 0 0, .slice none 0 0]) := e7
    have E8 : Hid (Below w.heap.size w wc) := e8
    have k1 := (e8.cell hd).trans c1
    have hd2 : d < wc.heap.size := Nat.lt_of_lt_of_le hd e8.size
    clear e6 e7 e8 hm c1 c2 K
    go_wp2_with fail
    go_loopw [23] (fun t23 wx => ∃ (v : Nat) (Y : List SV), t23 = .int .i64 v ∧ v ≤ G.length ∧ Upd [bS] wc wx ∧ Sl wx 83 1 (some ⟨bS, 0, none⟩) G.length G.length [bS] (Y.map SV.val) ∧
      (∀ i r, i < v → G[i]? = some r → ∃ s, Y[i]? = some s ∧ s.n = r.length ∧ s.c = s.n ∧ (s.a = none ∧ s.c = 0 ∨ ∃ c, s.a = some ⟨c, 0, none⟩) ∧ ∀ (k x : Nat), r[k]? = some x → ∃ c, s.a = some ⟨c, 0, none⟩ ∧ w.cell? ⟨c, k, none⟩ = some (.int .i64 x))) (fun u _ => G.length - (intOf u).toNat)
    case atStart =>
      refine ⟨0, List.replicate G.length ⟨none, 0, 0⟩, rfl, by omega, Upd.refl _ _, ?_, fun i r h => by omega⟩
      rw [List.map_replicate]; exact E6.out
    case round =>
      obtain ⟨v, Y, rfl, h1, h2, h3, h4⟩ := hrel
      have U1 : Hid _ := h2
      have S1 : Hid _ := h3
      have I1 : Hid (∀ i r, i < v → G[i]? = some r → ∃ s, Y[i]? = some s ∧ s.n = r.length ∧ s.c = s.n ∧ (s.a = none ∧ s.c = 0 ∨ ∃ c, s.a = some ⟨c, 0, none⟩) ∧ ∀ (k x : Nat), r[k]? = some x → ∃ c, s.a = some ⟨c, 0, none⟩ ∧ w.cell? ⟨c, k, none⟩ = some (.int .i64 x)) := h4
      have l1 := h2.cell e1 (by simpa using e5)
      have l2 := h2.cell e2 (by simpa using e5)
      clear h2 h3 h4
      have hbs : bS ≠ d := by omega
      by_cases hlt : v < G.length
      · obtain ⟨r, hr⟩ := has_at G hlt
        obtain ⟨b, s, q1, q2, q3, q4, q5, q6⟩ := HV.out.row v r hr
        have hbl : b < w.heap.size := World.block_lt_of_cell? _ _ q4
        have l3 := U1.out.cell ((E8.out.cell hbl).trans q4) (by simp; omega)
        obtain ⟨gm, egm, _, glt, cm, zm⟩ := S1.out.has (by omega)
        injection egm with egm
        injection egm with egm
        subst egm
        have hYl : Y.length = G.length := by have := S1.out.len; simpa using this
        obtain ⟨y, hy⟩ := has_at Y (show v < Y.length by omega)
        have l4 := cm v (by omega)
        rw [show (Y.map SV.val)[v]? = some y.val by simp [hy]] at l4
        have l5 := zm v
        have RR : Hid (G[v]? = some r) := hr
        have Q6 : Hid _ := q6
        have Q2 : Hid (s.n = r.length) := q2
        have Q5 : Hid _ := q5
        have K2 : Hid (∀ W : World, Calls Ybaz.prog 71 #[.slice s.a s.n s.c] W fun e w' => e = .returned (.slice s.a s.n s.n) ∧ w' = W) := fun W => clip71 W s.a s.n s.c q3.1 q5 q3.2
        subst q1
        clear hr q6 q2 q5 hy cm zm
        unfold SV.val at l4
        go_wp2_with fail
        go_region_with (go_at_call 71; refine (K2.out _).mono ?_; rintro e w' ⟨rfl, rfl⟩)
        all_goals go_wp2_with fail
        all_goals (
          have u2 : Upd [bS] wc (wr.setCell ⟨bS, v, none⟩ (.slice s.a s.n s.n)).drew := (U1.out.trans (Upd.store _ _ _ _) (fun k hk => .inl hk)).trans (Upd.drew [] _) (by simp)
          have s2 := (S1.out.store v (.slice s.a s.n s.n)).keep (Upd.drew [] _) (by simp)
          refine ⟨⟨v + 1, Y.set v ⟨s.a, s.n, s.n⟩, by go_num, by omega, u2, by rw [List.map_set]; exact s2, ?_⟩, by simp [intOf] <;> omega⟩
          intro i r' hi hr'
          by_cases e : i = v
          · subst e
            have e2 := RR.out
            rw [hr'] at e2
            injection e2 with e2
            subst e2
            refine ⟨_, List.getElem?_set_self (by omega), Q2.out, rfl, ?_, Q6.out⟩
            rcases Q5.out with ⟨a1, a2⟩ | a1
            · exact .inl ⟨a1, by show s.n = 0; omega⟩
            · exact .inr a1
          · obtain ⟨s', a1, a2⟩ := I1.out i r' (by omega) hr'
            exact ⟨s', by rw [List.getElem?_set_ne (Ne.symm e)]; exact a1, a2⟩)
      · have hv : v = G.length := by omega
        have B := Blk.keep E7.out U1.out (by simp; omega)
        have m1 : wr.cell? ⟨w.heap.size, 0, none⟩ = some (.slice none 0 0) := B.cell 0
        have m2 : wr.cell? ⟨w.heap.size, 1, none⟩ = some (.slice none 0 0) := B.cell 1
        have z1 := B.free 0
        have z2 := B.free 1
        have BB : Hid (Blk wr w.heap.size 88 #[.slice none 0 0, .slice none 0 0]) := B
        clear B
        have HV2 : Hid (v = G.length) := hv
        clear hv
        go_wp2_with fail
        have B3 : Blk ((wr.setCell ⟨w.heap.size, 0, none⟩ (.slice (some ⟨bS, 0, none⟩) G.length G.length)).setCell ⟨w.heap.size, 1, none⟩ (.slice aJ G.length G.length)) w.heap.size 88 #[.slice (some ⟨bS, 0, none⟩) G.length G.length, .slice aJ G.length G.length] := by
          have := Blk.store (Blk.store BB.out 0 (.slice (some ⟨bS, 0, none⟩) G.length G.length)) 1 (.slice aJ G.length G.length)
          simpa using this
        refine bodyPost_ret (results_cell_row rfl _ _ w.heap.size 88 _ (0, 0) _ rfl B3 Ybaz.underlying88 rfl (by kernel_rfl)) rfl ?_
        have U2 : Upd [bS, w.heap.size] wc ((wr.setCell ⟨w.heap.size, 0, none⟩ (.slice (some ⟨bS, 0, none⟩) G.length G.length)).setCell ⟨w.heap.size, 1, none⟩ (.slice aJ G.length G.length)) :=
          ((U1.out.mono (T := [bS, w.heap.size]) (fun k hk => .inl (by simp at hk; simp [hk]))).trans (Upd.store _ _ _ _) (fun k hk => .inl (by simp at hk; simp [hk]))).trans (Upd.store _ _ _ _) (fun k hk => .inl (by simp at hk; simp [hk]))
        have B2 : Below w.heap.size w _ := E8.out.trans (U2.below (B := w.heap.size) E8.out.size (by intro k hk; simp at hk; omega))
        have S2 := (S1.out.keep (Upd.store wr w.heap.size 0 (.slice (some ⟨bS, 0, none⟩) G.length G.length)) (by simp; omega)).keep (Upd.store _ w.heap.size 1 (.slice aJ G.length G.length)) (by simp; omega)
        refine ⟨_, _, _, _, rfl, ⟨?_, ?_, HV.out.len⟩, Nat.le_refl _, ⟨Nat.le_refl _, by omega⟩, ?_, B2⟩
        · intro i r hr
          have hi := (List.getElem?_eq_some_iff.mp hr).1
          obtain ⟨s, a1, a2, a3, a4, a5⟩ := I1.out i r (by rw [HV2.out]; exact hi) hr
          obtain ⟨b, x1, _, x3⟩ := S2.get (j := i) (v := s.val) (by simp [a1])
          exact ⟨b, s, x1, a2, ⟨by omega, by have := (HV.out.row i r hr); obtain ⟨_, s', _, y2, y3, _⟩ := this; omega⟩, x3, a4, fun k x hx => by
            obtain ⟨c, q1, q2⟩ := a5 k x hx
            exact ⟨c, q1, (B2.cell (World.block_lt_of_cell? _ _ q2)).trans q2⟩⟩
        · intro i j hj
          obtain ⟨c, q1, q2⟩ := HV.out.jun i j hj
          exact ⟨c, q1, (B2.cell (World.block_lt_of_cell? _ _ q2)).trans q2⟩
        · rcases b4 with ⟨a1, a2⟩ | a1
          · exact .inl ⟨a1, by omega⟩
          · exact .inr a1
end Go.Proofs.YbulkctquGreatFmt

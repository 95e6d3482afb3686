/-
  tangle: open, walked.
-/
import Derived.Test.YbulkctquGreatFmtTgC
import Derived.Deep.LoopGhost
namespace Go.Proofs.YbulkctquGreatFmt
open Go.ChangeShapes Go.WideShapes Go.ChangeAt Go.RowKit Go.Ord
set_option linter.unusedVariables false
attribute [local go_sem ↓] Go.wp_at_zero Go.wp_at_succ

set_option maxHeartbeats 8000000 in
set_option maxRecDepth 100000 in
theorem open129 {d bW cW bC cC bE : Nat} {fV : List Nat} {g : GG} {G : List (List Nat)} {J : List Bool} {ws : List (Alt × Alt)} {ch se : List Int} {st : Int} {w : World} (H : TG d bW cW bC cC bE fV g G J ws ch se st w)
    (c v : Nat) (hc : c < ws.length) (hv : v ≤ 1) (hi0 : (altOf ws c v).i < G.length) (hw : ∀ t ∈ (altOf ws c v).f, t < G.length) (hG : ∀ u, ∀ x ∈ outs G u, x < G.length) (hse : ∀ y ∈ se, 0 ≤ y ∧ y ≤ st) (hs0 : 0 ≤ st) (hs1 : st < 9223372036854775806) (hGl : G.length < 10000) (hwt : wt G < 1000000) (hfl : (altOf ws c v).f.length ≤ 100) (hwl : ws.length ≤ 100) :
    Calls Ybaz.prog 129 #[.pointer (some ⟨d, 0, none⟩), .int .i64 c, .int .i64 v] w fun e w' => ∃ (b : Bool) (se' : List Int) (g' : GG), e = .returned (.bool b) ∧ g'.foot = g.foot ∧ TG d bW cW bC cC bE fV g' G J ws ch se' (st + 1) w' ∧ (∀ y ∈ se', 0 ≤ y ∧ y ≤ st + 1) ∧ (b = true → OpenW G (altOf ws c v)) ∧ Upd [d, bE] w w' := by
  obtain ⟨⟨sa, sn, sc⟩, k1, k2, k3⟩ := H.wv.at hc hv
  simp only at k1
  have e2 := (H.cell (j := 2) rfl).1
  obtain ⟨e5, z5⟩ := H.cell (j := 5) rfl
  have HH : Hid _ := H
  have HW : Hid (∀ t ∈ (altOf ws c v).f, t < G.length) := hw
  have HG : Hid (∀ u, ∀ x ∈ outs G u, x < G.length) := hG
  have SE : Hid (∀ y ∈ se, 0 ≤ y ∧ y ≤ st) := hse
  have K3 : Hid _ := k3
  obtain ⟨f, hf⟩ : ∃ f, f = (altOf ws c v).f := ⟨_, rfl⟩
  obtain ⟨i0, hi⟩ : ∃ i, i = (altOf ws c v).i := ⟨_, rfl⟩
  have hsn : sn = f.length := by rw [hf]; exact k3.1
  subst hsn
  rw [← hi] at k2 hi0
  rw [← hf] at hfl
  have FF : Hid (f = (altOf ws c v).f) := hf
  have II : Hid (i0 = (altOf ws c v).i) := hi
  have hlw : d < w.heap.size := H.lt d (by simp [tanFp])
  clear H hw k3 hf hi hG hse
  go_enter Ybaz.func129, Ybaz.ntmps129
  go_upto_region 1 with fail
  obtain ⟨W0, hW0⟩ : ∃ z : World, z = w.alloc (.cells #[.pointer (some ⟨d, 0, none⟩)] 228) := ⟨_, rfl⟩
  have U0 : Upd [] w W0 := by rw [hW0]; exact Upd.alloc _ _ _
  have X0 : Blk W0 w.heap.size 228 #[.pointer (some ⟨d, 0, none⟩)] := by rw [hW0]; exact Blk.new _ _ _
  rw [← hW0]
  have k1' := U0.cell k1 (by simp)
  have k2' := U0.cell k2 (by simp)
  have e2' := U0.cell e2 (by simp)
  have x0 := X0.cell 0
  have hz0 : W0.heap.size = w.heap.size + 1 := by rw [hW0]; simp
  have T0 : Hid _ := HH.out.grow U0
  clear hW0 k1 k2 e2 e5 z5
  go_upto_region 2 with fail
  obtain ⟨W1, hW1⟩ : ∃ z : World, z = W0.alloc (.cells #[.slice sa f.length sc, .int .i64 i0] 161) := ⟨_, rfl⟩
  have U1 : Upd [] W0 W1 := by rw [hW1]; exact Upd.alloc _ _ _
  have Y1 : Blk W1 (w.heap.size + 1) 161 #[.slice sa f.length sc, .int .i64 i0] := by rw [hW1, ← hz0]; exact Blk.new _ _ _
  have X1 : Blk W1 w.heap.size 228 #[.pointer (some ⟨d, 0, none⟩)] := X0.keep U1 (by simp)
  have hz1 : W1.heap.size = w.heap.size + 2 := by rw [hW1]; simp [hz0]
  have T1 : Hid _ := T0.out.grow U1
  rw [← hW1]
  obtain ⟨e5, z5⟩ := T1.out.cell (j := 5) rfl
  have x0 := X1.cell 0
  have UU1 : Hid (Upd [d, bE] w W1) := (U0.trans U1 (by simp)).mono (by simp)
  obtain ⟨g2, f2, t2⟩ := T1.out.setSt (st + 1)
  have T2 : Hid _ := t2
  have F2 : Hid (g2.foot = g.foot) := f2
  have XH : Hid (Blk W1 w.heap.size 228 #[.pointer (some ⟨d, 0, none⟩)]) := X1
  have YH : Hid (Blk W1 (w.heap.size + 1) 161 #[.slice sa f.length sc, .int .i64 i0]) := Y1
  clear hW1 U0 U1 X0 X1 Y1 k1' k2' e2' T0 t2 f2
  go_upto_region 3 with fail
  obtain ⟨W2, hW2⟩ : ∃ z : World, z = W1.setCell ⟨d, 5, none⟩ (.int .i64 (st + 1)) := ⟨_, rfl⟩
  have U2 : Upd [d] W1 W2 := by rw [hW2]; exact Upd.store _ _ _ _
  rw [← hW2] at T2 ⊢
  have ndX : w.heap.size ∉ [d] := by simp; omega
  have ndY : w.heap.size + 1 ∉ [d] := by simp; omega
  have X2 : Blk W2 w.heap.size 228 #[.pointer (some ⟨d, 0, none⟩)] := Blk.keep XH.out U2 ndX
  have Y2 : Blk W2 (w.heap.size + 1) 161 #[.slice sa f.length sc, .int .i64 i0] := Blk.keep YH.out U2 ndY
  have UU2 : Hid (Upd [d, bE] w W2) := UU1.out.trans U2 (fun k hk => .inl (by simp at hk; simp [hk]))
  have x0 := X2.cell 0
  have y1 := Y2.cell 1
  have e4 := (T2.out.cell (j := 4) rfl).1
  have e5 := (T2.out.cell (j := 5) rfl).1
  have sl := T2.out.lens.2.1
  obtain ⟨zs, hzs⟩ := has_at se (k := i0) (by omega)
  obtain ⟨m1, m2⟩ := T2.out.gse hzs
  have hbE : bE < w.heap.size := HH.out.lt bE (by simp [tanFp])
  have ndE : bE ≠ w.heap.size := by omega
  have t3 := T2.out.setSe i0 (st + 1)
  have T3 : Hid _ := t3
  have XH2 : Hid (Blk W2 w.heap.size 228 #[.pointer (some ⟨d, 0, none⟩)]) := X2
  have YH2 : Hid (Blk W2 (w.heap.size + 1) 161 #[.slice sa f.length sc, .int .i64 i0]) := Y2
  have hz2 : w.heap.size + 2 ≤ W2.heap.size := by have := U2.size; omega
  clear hW2 U2 X2 Y2 XH YH UU1 T1 hzs t3 ndX ndY sl
  go_big_region
  obtain ⟨W3, hW3⟩ : ∃ z : World, z = (W2.setCell ⟨bE, i0, none⟩ (.int .i64 (st + 1))).drew := ⟨_, rfl⟩
  have U3 : Upd [bE] W2 W3 := by rw [hW3]; exact (Upd.store _ _ _ _).trans (Upd.drew [] _) (by simp)
  have T4 := T3.out.grow (Upd.drew [] _)
  rw [← hW3] at T4 ⊢
  have X3 : Blk W3 w.heap.size 228 #[.pointer (some ⟨d, 0, none⟩)] := Blk.keep XH2.out U3 (by simp; omega)
  have Y3 : Blk W3 (w.heap.size + 1) 161 #[.slice sa f.length sc, .int .i64 i0] := Blk.keep YH2.out U3 (by simp; omega)
  have UU3 : Hid (Upd [d, bE] w W3) := UU2.out.trans U3 (fun k hk => .inl (by simp at hk; simp [hk]))
  have y1 := Y3.cell 1
  have hz3 : w.heap.size + 2 ≤ W3.heap.size := by have := U3.size; omega
  clear hW3 U3 T3 XH2 YH2 UU2 e4 e5 m1 m2 x0
  go_upto_region 5 with fail
  have U4 : Upd [] W3 (W3.alloc (.cells #[.int .i64 i0] 3)) := Upd.alloc _ _ _
  have S4 : Sl (W3.alloc (.cells #[.int .i64 i0] 3)) 3 1 (some ⟨W3.heap.size, 0, none⟩) 1 1 [W3.heap.size] ([i0].map nI) := ⟨rfl, .inr ⟨_, _, rfl, rfl, Blk.new W3 #[.int .i64 i0] 3, Nat.le_refl _, by decide, rfl, rfl⟩⟩
  have D0 : DF G (st + 1) (se.set i0 (st + 1)) [i0] i0 := DF.start HH.out.lens.2.1 hi0 (fun y hy => by have := (SE.out y hy).2; omega)
  have SE1 : ∀ y ∈ se.set i0 (st + 1), 0 ≤ y ∧ y ≤ st + 1 := by
    intro y hy
    rcases List.mem_or_eq_of_mem_set hy with h1 | h1
    · have := SE.out y h1; omega
    · omega
  have I0 : Hid (TG d bW cW bC cC bE fV g2 G J ws ch (se.set i0 (st + 1)) (st + 1) (W3.alloc (.cells #[.int .i64 i0] 3)) ∧ Sl (W3.alloc (.cells #[.int .i64 i0] 3)) 3 1 (some ⟨W3.heap.size, 0, none⟩) 1 1 [W3.heap.size] ([i0].map nI) ∧ DF G (st + 1) (se.set i0 (st + 1)) [i0] i0 ∧ (∀ y ∈ se.set i0 (st + 1), 0 ≤ y ∧ y ≤ st + 1) ∧ Upd [d, bE] w (W3.alloc (.cells #[.int .i64 i0] 3)) ∧ Blk (W3.alloc (.cells #[.int .i64 i0] 3)) w.heap.size 228 #[.pointer (some ⟨d, 0, none⟩)] ∧ Blk (W3.alloc (.cells #[.int .i64 i0] 3)) (w.heap.size + 1) 161 #[.slice sa f.length sc, .int .i64 i0]) :=
    ⟨T4.grow U4, S4, D0, SE1, UU3.out.trans U4 (by simp), X3.keep U4 (by simp), Y3.keep U4 (by simp)⟩
  have hun : un (se.set i0 (st + 1)) (st + 1) ≤ G.length := by
    have e1 : (se.set i0 (st + 1)).length = G.length := D0.len
    have := List.countP_le_length (p := fun x => x != (st + 1)) (l := se.set i0 (st + 1))
    unfold un; omega
  have FS0 : Hid (∀ k ∈ [W3.heap.size], w.heap.size + 2 ≤ k) := fun k hk => by simp at hk; omega
  obtain ⟨W4, hW4⟩ : ∃ z : World, z = W3.alloc (.cells #[.int .i64 i0] 3) := ⟨_, rfl⟩
  rw [← hW4] at I0 ⊢
  clear hW4 U4 S4 D0 SE1 T4 X3 Y3 y1
  go_loopg [8] (2 * un (se.set i0 (st + 1)) (st + 1) + 1) (fun m t8 wr => ∃ (S : List Nat) (se1 : List Int) (g1 : GG) (vS : SV) (fS : List Nat), m = 2 * un se1 (st + 1) + S.length ∧ m ≤ 2 * G.length + 1 ∧ t8 = .slice vS.a vS.n vS.c ∧ g1.foot = g.foot ∧ TG d bW cW bC cC bE fV g1 G J ws ch se1 (st + 1) wr ∧ Sl wr 3 1 vS.a vS.n vS.c fS (S.map nI) ∧ DF G (st + 1) se1 S i0 ∧ (∀ y ∈ se1, 0 ≤ y ∧ y ≤ st + 1) ∧ Upd [d, bE] w wr ∧ Blk wr w.heap.size 228 #[.pointer (some ⟨d, 0, none⟩)] ∧ Blk wr (w.heap.size + 1) 161 #[.slice sa f.length sc, .int .i64 i0] ∧ ∀ k ∈ fS, w.heap.size + 2 ≤ k)
  case atStart =>
    obtain ⟨q1, q2, q3, q4, q5, q6, q7⟩ := I0.out
    exact ⟨[i0], _, g2, ⟨some ⟨W3.heap.size, 0, none⟩, 1, 1⟩, _, rfl, by omega, rfl, F2.out, q1, q2, q3, q4, q5, q6, q7, FS0.out⟩
  case round =>
    obtain ⟨S, se1, g1, vS, fS, rfl, hm, rfl, q0, q1, q2, q3, q4, q5, q6, q7, q8⟩ := hrel
    have P0 : Hid (g1.foot = g.foot) := q0
    have P1 : Hid _ := q1
    have P2 : Hid _ := q2
    have P3 : Hid _ := q3
    have P4 : Hid (∀ y ∈ se1, 0 ≤ y ∧ y ≤ st + 1) := q4
    have P5 : Hid (Upd [d, bE] w wr) := q5
    have P6 : Hid (Blk wr w.heap.size 228 #[.pointer (some ⟨d, 0, none⟩)]) := q6
    have P7 : Hid (Blk wr (w.heap.size + 1) 161 #[.slice sa f.length sc, .int .i64 i0]) := q7
    have P8 : Hid (∀ k ∈ fS, w.heap.size + 2 ≤ k) := q8
    obtain ⟨va, vn, vc⟩ := vS
    simp only at q2 P2
    have hvn : vn = S.length := by have := q2.len; simp at this; omega
    subst hvn
    rcases List.eq_nil_or_concat S with rfl | ⟨S', v1, rfl⟩
    · have y0 := Blk.cell q7 0
      simp only [List.length_nil]
      have e4 := (q1.cell (j := 4) rfl).1
      have e5 := (q1.cell (j := 5) rfl).1
      have KC : Hid _ := contains135 wr sa sc f (by omega) (fun x => se1.getD x 0 == st + 1) #[.pointer (some ⟨w.heap.size, 0, none⟩)] (fun j x hx => by
        obtain ⟨b, m1, m2, m3⟩ := K3.out.2.2.2 j x (by rw [← FF.out]; exact hx)
        exact ⟨b, m2, P5.out.cell m3 (fun hm => HH.out.ap b m1 (by simp at hm; rcases hm with hm | hm <;> simp [tanFp, hm]))⟩) (fun q x hx => by
        have hxG := HW.out x (by rw [← FF.out]; exact hx)
        obtain ⟨z, hz⟩ := has_at se1 (k := x) (by rw [q3.len]; exact hxG)
        have e0 : se1.getD x 0 = z := by simp [hz]
        simp only [e0]
        exact seen136 (wr.drewN q) w.heap.size d bE G.length G.length x z (st + 1) (Blk.cell q6 0) e4 e5 (q1.gse hz).1 hxG)
      clear q0 q1 q2 q3 q4 q5 q6 q7 q8 e4 e5
      go_wp2_with fail
      refine Calls.mono KC.out ?_
      rintro e w' ⟨rfl, q, rfl⟩
      clear KC
      go_wp2_with fail
      go_ret
      refine ⟨_, se1, g1, rfl, P0.out, P1.out.grow (Upd.drewN [] _ _), P4.out, ?_, P5.out.trans (Upd.drewN [] _ _) (by simp)⟩
      intro hb t ht hp
      have h1 := P3.out.reach (t := t) (by rw [II.out]; exact hp)
      have h2 : (f.any fun x => se1.getD x 0 == st + 1) = true := List.any_eq_true.mpr ⟨t, by rw [FF.out]; exact ht, by simp [h1]⟩
      simp at hb
      have h3 := hb t (by rw [FF.out]; exact ht)
      simp [h1] at h3
    · rw [List.concat_eq_append] at *
      have hl0 : S'.length < 100000 := by simp at hm; omega
      obtain ⟨gs, s1, s2, s3, s4, s5⟩ := q2.has (by simp)
      subst s1
      have s6 := s4 S'.length (by simp)
      rw [show ((S' ++ [v1]).map nI)[S'.length]? = some (.int .i64 v1) by simp [nI]] at s6
      have hcap := q2.le
      simp only [List.length_append, List.length_singleton] at hcap s6
      have CU : Hid (Sl wr 3 1 (some ⟨gs, 0, none⟩) S'.length vc fS (S'.map nI)) := by
        have := q2
        rw [List.map_append, List.length_append, List.length_singleton] at this
        exact sl_cut this
      have hv1 := q3.st v1 (by simp)
      have hv1G : v1 < G.length := by have := (List.getElem?_eq_some_iff.mp hv1).1; rw [q3.len] at this; exact this
      obtain ⟨r, hr⟩ := has_at G hv1G
      obtain ⟨gS, ⟨ra, rn, rc⟩, a1, a2, a3, a4, a5, a6, a7, a8, a9, a10, a11⟩ := q1.gr.rowAt hr
      simp only at a4 a5 a6 a8
      subst a4
      have RO : Hid (outs G v1 = r) := by
        show outs G v1 = r
        simp [outs, hr]
      have hrl : r.length ≤ wt G := row_wt G v1 r hr
      have x0 := Blk.cell q6 0
      have I1 : Hid _ := q3.pop
      have hmm : 2 * un se1 (st + 1) + S'.length + 1 ≤ 2 * G.length + 1 := by simp at hm; omega
      have A3 : Hid (g1.vs[v1]? = some ⟨ra, r.length, rc⟩) := a3
      have HRR : Hid (G[v1]? = some r) := hr
      clear q0 q1 q2 q3 q4 q5 q6 q7 q8 s4 s5 hr a1 a2 a3 a9 a10 a11 hv1
      simp only [List.length_append, List.length_singleton]
      go_upto_region 9 with fail
      clear x0 s6 a7 a8
      go_loopw [8, 65] (fun t8 t65 wx => ∃ (j : Nat) (S2 : List Nat) (se2 : List Int) (vS2 : SV) (fS2 : List Nat), j ≤ r.length ∧ t65 = .int .i64 j ∧ t8 = .slice vS2.a vS2.n vS2.c ∧ TG d bW cW bC cC bE fV g1 G J ws ch se2 (st + 1) wx ∧ Sl wx 3 1 vS2.a vS2.n vS2.c fS2 (S2.map nI) ∧ DFI G (st + 1) se2 S2 i0 v1 j ∧ (∀ y ∈ se2, 0 ≤ y ∧ y ≤ st + 1) ∧ Upd [d, bE] w wx ∧ Blk wx w.heap.size 228 #[.pointer (some ⟨d, 0, none⟩)] ∧ Blk wx (w.heap.size + 1) 161 #[.slice sa f.length sc, .int .i64 i0] ∧ (∀ k ∈ fS2, w.heap.size + 2 ≤ k) ∧ w.heap.size + 2 ≤ wx.heap.size ∧ 2 * un se2 (st + 1) + S2.length ≤ 2 * un se1 (st + 1) + S'.length) (fun _ u _ => r.length - (intOf u).toNat)
      case atStart => exact ⟨0, S', se1, ⟨some ⟨gs, 0, none⟩, S'.length, vc⟩, fS, by omega, rfl, rfl, P1.out, CU.out, I1.out, P4.out, P5.out, P6.out, P7.out, P8.out, by have := Blk.lt P7.out; omega, Nat.le_refl _⟩
      case round =>
        obtain ⟨j, S2, se2, vS2, fS2, hj, rfl, rfl, q1, q2, q3, q4, q5, q6, q7, q8, q9, q10⟩ := hrel
        have R1 : Hid _ := q1
        have R2 : Hid _ := q2
        have R3 : Hid _ := q3
        have R4 : Hid (∀ y ∈ se2, 0 ≤ y ∧ y ≤ st + 1) := q4
        have R5 : Hid (Upd [d, bE] w wr) := q5
        have R6 : Hid (Blk wr w.heap.size 228 #[.pointer (some ⟨d, 0, none⟩)]) := q6
        have R7 : Hid (Blk wr (w.heap.size + 1) 161 #[.slice sa f.length sc, .int .i64 i0]) := q7
        have R8 : Hid (∀ k ∈ fS2, w.heap.size + 2 ≤ k) := q8
        by_cases hlt : j < r.length
        · obtain ⟨x, hx⟩ := has_at r hlt
          have OX : Hid ((outs G v1)[j]? = some x) := by
            show (outs G v1)[j]? = some x
            rw [RO.out]; exact hx
          have hxG : x < G.length := HG.out v1 x (List.mem_of_getElem? OX.out)
          obtain ⟨gS', s', a1, a2, a3, a4, a5, a6, a7, a8, a9, a10, a11⟩ := q1.gr.rowAt HRR.out
          rw [A3.out] at a3
          injection a3 with a3
          subst a3
          obtain ⟨b, m1, m2⟩ := a11 j x hx
          simp only at m1
          subst m1
          have x0 := Blk.cell q6 0
          have e4 := (q1.cell (j := 4) rfl).1
          have e5 := (q1.cell (j := 5) rfl).1
          obtain ⟨z, hz⟩ := has_at se2 (k := x) (by rw [q3.len]; exact hxG)
          obtain ⟨m3, m4⟩ := q1.gse hz
          have SZ : Hid (se2[x]? = some z) := hz
          have hlS : S2.length < 100000 := by
            have : un se1 (st + 1) ≤ G.length := by omega
            omega
          have hvn : vS2.n = S2.length := by have := q2.len; simp at this; omega
          clear q1 q2 q3 q4 q5 q6 q7 q8 a1 a2 a4 a5 a6 a7 a8 a9 a10 a11 hz hx
          by_cases hzz : z = st + 1
          · subst hzz
            go_upto_region 11 with fail
            go_big_quiet (fail)
            have UQ : Upd [] wr (wr.drewN nq) := Upd.drewN _ _ _
            obtain ⟨W5, hW5⟩ : ∃ z : World, z = wr.drewN nq := ⟨_, rfl⟩
            rw [← hW5] at UQ ⊢
            clear hW5 x0 e4 e5 m3 m4 m2
            go_wp2_with fail
            exact ⟨⟨j + 1, S2, se2, vS2, fS2, by omega, by go_num, rfl, R1.out.grow UQ, R2.out.keep UQ (by simp), R3.out.old OX.out SZ.out, R4.out, R5.out.trans UQ (by simp), Blk.keep R6.out UQ (by simp), Blk.keep R7.out UQ (by simp), R8.out, by have := UQ.size; omega, q10⟩, by simp [intOf] <;> omega⟩
          · go_upto_region 11 with fail
            go_big_quiet (fail)
            have UQ : Upd [] wr (wr.drewN nq) := Upd.drewN _ _ _
            obtain ⟨W5, hW5⟩ : ∃ z : World, z = wr.drewN nq := ⟨_, rfl⟩
            rw [← hW5] at UQ ⊢
            have x0' := UQ.cell x0 (by simp)
            have e4' := UQ.cell e4 (by simp)
            have e5' := UQ.cell e5 (by simp)
            have m3' := UQ.cell m3 (by simp)
            have T5 := (R1.out.grow UQ)
            have m4' := (T5.gse SZ.out).2
            have hbE : bE < w.heap.size := HH.out.lt bE (by simp [tanFp])
            have ndE : bE ≠ w.heap.size := by omega
            have hz5 : w.heap.size + 2 ≤ W5.heap.size := by have := UQ.size; omega
            have T6 : Hid _ := T5.setSe x (st + 1)
            have UQH : Hid (Upd [] wr W5) := UQ
            clear hW5 x0 e4 e5 m3 m4 m2 UQ T5
            go_upto_region 12 with fail
            go_big_region
            obtain ⟨W6, hW6⟩ : ∃ z : World, z = (W5.setCell ⟨bE, x, none⟩ (.int .i64 (st + 1))).drew := ⟨_, rfl⟩
            have U6 : Upd [bE] W5 W6 := by rw [hW6]; exact (Upd.store _ _ _ _).trans (Upd.drew [] _) (by simp)
            have T7 := T6.out.grow (Upd.drew [] _)
            rw [← hW6] at T7 ⊢
            have U56 : Hid (Upd [bE] wr W6) := (UQH.out.mono (by simp)).trans U6 (fun k hk => .inl hk)
            have TH7 : Hid _ := T7
            have nbE : Hid (∀ k ∈ fS2, k ∉ [bE]) := fun k hk hm => by have := R8.out k hk; simp at hm; omega
            have SS : Hid (Sl W6 3 1 vS2.a vS2.n vS2.c fS2 (S2.map nI)) := R2.out.keep U56.out nbE.out
            have hz6 : w.heap.size + 2 ≤ W6.heap.size := by have := U6.size; omega
            clear hW6 U6 T6 T7 UQH x0' e4' e5' m3' m4'
            go_wp2_with (first
              | (at_builtin; refine wpList_append_one W6 _ (Upd.refl [] _) rfl (.tmp 91) (.tmp 93) 83 rfl 3 8 slInts (by decide) vS2.a vS2.n vS2.c fS2 (S2.map nI) rfl SS.out (by simp) _ rfl _ _ rfl (by simp) (by omega) ?_; intro gX cX w7 sX uX fX; have SX : Hid _ := sX; have UX : Hid _ := uX; have FX : Hid _ := fX; clear sX uX fX))
            have ndf : ∀ k ∈ tanFp d g1 bC bE, k ∉ fS2 := fun k hk hm => by
              have := R8.out k hm
              have := (show k < w.heap.size from HH.out.lt k (by rw [tanFp, P0.out] at hk; exact hk))
              omega
            have nvf : ∀ k ∈ fV, k ∉ fS2 := fun k hk hm => by
              have := R8.out k hm
              have := HH.out.wv.lt k hk
              omega
            have T8 := TH7.out.keep UX.out ndf nvf
            have U67 : Upd fS2 W6 w7 := UX.out
            have nX : ∀ j, j < 2 → w.heap.size + j ∉ fS2 := fun j hj hm => by have := R8.out _ hm; omega
            refine ⟨⟨j + 1, S2 ++ [x], se2.set x (st + 1), ⟨some ⟨gX, 0, none⟩, S2.length + 1, cX⟩, [gX], by omega, by go_num, rfl, T8, by simpa [nI, hvn] using SX.out, R3.out.new OX.out hxG, ?_, ?_, ?_, ?_, ?_, ?_, ?_⟩, by simp [intOf] <;> omega⟩
            · intro y hy
              rcases List.mem_or_eq_of_mem_set hy with h1 | h1
              · exact R4.out y h1
              · omega
            · refine (R5.out.trans U56.out (fun k hk => .inl (by simp at hk; simp [hk]))).trans U67 (fun k hk => .inr (by have := R8.out k hk; omega))
            · exact Blk.keep (Blk.keep R6.out U56.out (by simp; omega)) U67 (nX 0 (by omega))
            · exact Blk.keep (Blk.keep R7.out U56.out (by simp; omega)) U67 (nX 1 (by omega))
            · intro k hk
              simp at hk
              subst hk
              rcases FX.out with h1 | h1
              · exact R8.out _ h1
              · omega
            · have := U67.size; omega
            · have := un_put SZ.out hzz
              simp; omega
        · have hj2 : j = r.length := by omega
          have DN : Hid _ := q3.done (by rw [RO.out]; omega)
          clear q1 q2 q3 q4 q5 q6 q7 q8
          go_wp2_with fail
          go_roundg (2 * un se2 (st + 1) + S2.length)
          case measure => simp; omega
          case rel => exact ⟨S2, se2, g1, vS2, fS2, rfl, by omega, rfl, P0.out, R1.out, R2.out, DN.out, R4.out, R5.out, R6.out, R7.out, R8.out⟩
end Go.Proofs.YbulkctquGreatFmt

/-
  search, walked.
-/
import Derived.Test.YbulkctquGreatFmtSchP
namespace Go.Proofs.YbulkctquGreatFmt
open Go.ChangeShapes Go.WideShapes Go.ChangeAt Go.RowKit Go.Ord
set_option linter.unusedVariables false
attribute [local go_sem ↓] Go.wp_at_zero Go.wp_at_succ

set_option maxHeartbeats 16000000 in
set_option maxRecDepth 100000 in
theorem search21g (w : World) (d m bN bF : Nat) (hm : m ≤ 12) (g : GG) (G : List (List Nat)) (J : List Bool) (sg : SG) (ss : List Sr) (og : OG) (os : List Ob) (h : Poly d bN bF m g G J sg ss og os w) (S : SrOk m G ss os) (hmG : m ≤ G.length) (hJ : ∀ x, x < G.length → (juncAt J x = false ↔ x < m)) (hA : Acy G) (hG : ∀ u, ∀ x ∈ outs G u, x < G.length) (hGl : G.length < 10000) (hwt : wt G < 800000) (hF : ∀ t < m, ∃ p : Nat, w.cell? ⟨bF, t, none⟩ = some (.int .i64 p)) (hbF : bF < w.heap.size) (hbd : bF ≠ d) (hlo : os.length < 1000) (hls : ss.length ≤ 50) :
    Calls Ybaz.prog 21 #[.pointer (some ⟨d, 0, none⟩)] w (Thru (SchPost d bN m G J ss os w)) := by
  have PS : Hid _ := PX.start h
  have SH : Hid (SrOk m G ss os) := S
  have HJ : Hid (∀ x, x < G.length → (juncAt J x = false ↔ x < m)) := hJ
  have HA : Hid (Acy G) := hA
  have HG : Hid (∀ u, ∀ x ∈ outs G u, x < G.length) := hG
  have HF : Hid (∀ t < m, ∃ p : Nat, w.cell? ⟨bF, t, none⟩ = some (.int .i64 p)) := hF
  have hd : d < w.heap.size := h.gr.lt
  have q83a := q83nn
  have q83b := q83ns
  clear h S hJ hA hG hF
  go_enter Ybaz.func21, Ybaz.ntmps21
  go_wp2_with fail
  go_loopg [12] 60 (fun mm t12 wr => ∃ (PR : List (Nat × Nat × Nat)) (g1 : GG) (v : SV) (fT fR : List Nat) (cs : List Cho) (vs : List (SV × SV)), mm = 60 - PR.length ∧ PRI ss os PR ∧ PX d bN bF m g1 G J sg ss og os v fT fR cs vs wr ∧ SameC (PR.map (choOf ss)) cs ∧ (∀ C ∈ cs, C.way ≤ 1) ∧ Upd [d] w wr ∧ ∀ k ∈ fT ++ fR, w.heap.size ≤ k)
  case atStart => exact ⟨[], g, ⟨none, 0, 0⟩, [], [], [], [], rfl, PRI.nil ss os, PS.out, SameC.refl _, by simp, Upd.refl _ _, by simp⟩
  case round =>
    obtain ⟨PR, g1, v, fT, fR, cs, vs, h0, h1, h2, h3, h4, h5, h6⟩ := hrel
    have MQ : Hid (_ = 60 - PR.length) := h0
    have PRH : Hid (PRI ss os PR) := h1
    have PXH : Hid _ := h2
    have SMH : Hid (SameC (PR.map (choOf ss)) cs) := h3
    have WYH : Hid (∀ C ∈ cs, C.way ≤ 1) := h4
    have UWR : Hid (Upd [d] w wr) := h5
    have FRH : Hid (∀ k ∈ fT ++ fR, w.heap.size ≤ k) := h6
    have hpl := h1.len SH.out
    have csl : cs.length ≤ 60 := by rw [h3.1, List.length_map]; exact hpl
    have co : ∀ C ∈ cs, ChOf ss os C := fun C hC => h1.cho h3 hC
    have KC : Hid _ := choose45g wr d bN bF m g1 G J sg ss og os v fT fR cs vs h2 csl h4 (fun C hC => (co C hC).lens SH.out hm) (fun C hC => ((co C hC).lts SH.out hmG).1) (fun cmp siz hc C hC => (co C hC).inLab SH.out hmG hC hc) (fun C hC => ((co C hC).lts SH.out hmG).2) hmG hm HA.out HG.out hGl hwt (fun t ht => by
      obtain ⟨p, hp⟩ := HF.out t ht
      exact ⟨p, h5.cell hp (by simpa using hbd)⟩) (fun hmm => by have := h6 bF (by simp [hmm]); omega)
    have COH : Hid (∀ C ∈ cs, ChOf ss os C) := co
    clear h0 h1 h2 h3 h4 h5 h6 co
    go_wp2_with fail
    refine Calls.mono KC.out ?_
    rintro e w1 ⟨cs1, p1, p2, p3, p4⟩
    have P1 : Hid _ := p1
    have SM1 : Hid (SameC (PR.map (choOf ss)) cs1) := SMH.out.trans p2
    have CO1 : Hid (∀ C ∈ cs1, ChOf ss os C) := fun C hC => PRH.out.cho SM1.out hC
    have CL1 : cs1.length ≤ 60 := by rw [p2.1]; exact csl
    have U1 : Hid (Upd [d] w w1) := UWR.out.trans p3 (fun k hk => .inr (FRH.out k (by simp [hk])))
    clear p1 p2 p3 KC
    rcases p4 with ⟨rfl, p5, p6⟩ | ⟨b, c, K, rfl, p5, p6, p7⟩
    · have WY1 : Hid (∀ C ∈ cs1, C.way ≤ 1) := p5
      have AC1 : Hid (Acy (chosen G cs1)) := p6
      clear p5 p6
      as_aux_lemma =>
      have HFB : Hid (∀ C ∈ cs1, ((∀ t ∈ C.a0.f, t < G.length) ∧ ∀ t ∈ C.a1.f, t < G.length) ∧ C.a0.i < m ∧ C.a1.i < m) := fun C hC => (CO1.out C hC).lts SH.out hmG
      have HFL : Hid (∀ C ∈ cs1, C.a0.f.length ≤ 100 ∧ C.a1.f.length ≤ 100) := fun C hC => ⟨((CO1.out C hC).lens SH.out hm).1, ((CO1.out C hC).lens SH.out hm).2.1⟩
      have KK : Hid _ := clone46k w1 d 2 G J P1.out.gr.read (by omega)
      have hd1 : d < w1.heap.size := P1.out.gr.lt
      go_wp2_with fail
      refine Calls.mono KK.out ?_
      rintro e w2 ⟨bS, aJ, Y, rfl, p1, p2, p3, p4, p5, p6, p7⟩
      have U2 : Upd [] w1 w2 := ⟨p7.os, p7.tape, p7.output, p7.size, fun k hk _ => p7.block k hk⟩
      have GK : Hid _ := GrK.start p1 p2 p3 p4 p5 p6 U2
      have U2H : Hid (Upd [] w1 w2) := U2
      have LS : Hid (w1.heap.size ≤ bS) := p1
      have d62 : ∀ o', (w2.alloc o').cell? ⟨d, 6, none⟩ = some (.slice v.a cs1.length v.c) := fun o' => by
        have := ((P1.out.grow (U2.trans (Upd.alloc [] w2 o') (by simp))).cell (j := 6) rfl).1
        rw [P1.out.ch.n] at this
        exact this
      clear p1 p2 p3 p4 p5 p6 p7 U2 KK
      go_wp2_with fail
      clear d62
      obtain ⟨bQ, hbQ⟩ : ∃ b, b = w2.heap.size := ⟨_, rfl⟩
      obtain ⟨lo, hlo'⟩ : ∃ b, b = w1.heap.size := ⟨_, rfl⟩
      obtain ⟨W3, hW3⟩ : ∃ z : World, z = w2.alloc (.cells #[.slice (some ⟨bS, 0, none⟩) G.length G.length, .slice aJ G.length G.length] 88) := ⟨_, rfl⟩
      rw [← hW3, ← hbQ, ← hlo'] at GK
      rw [← hW3, ← hbQ]
      have U3 : Upd [] w2 W3 := by rw [hW3]; exact Upd.alloc _ _ _
      have U13 : Hid (Upd [] w1 W3) := U2H.out.trans U3 (by simp)
      have LOW : Hid (∀ k ∈ [bQ, bS], w1.heap.size ≤ k) := fun k hk => by
        have := U2H.out.size
        have := LS.out
        simp at hk
        rcases hk with rfl | rfl
        · omega
        · omega
      have HLO : Hid (lo = w1.heap.size) := hlo'
      clear hbQ hlo' hW3 U3
      go_loopw [26] (fun t26 wr => ∃ (i : Nat) (Y4 : List SV) (fI4 : List (List Nat)), i ≤ cs1.length ∧ t26 = .int .i64 i ∧ GrK lo wr bQ bS aJ (chosen G (cs1.take i)) J Y4 fI4 ∧ Upd [bQ, bS] W3 wr ∧ (∀ k ∈ fI4.flatten, W3.heap.size ≤ k)) (fun a _ => cs1.length - (intOf a).toNat)
      case atStart => exact ⟨0, Y, List.replicate G.length [], by omega, rfl, by simpa [chosen] using GK.out, Upd.refl _ _, by simp⟩
      case round =>
        obtain ⟨i, Y4, fI4, hi, rfl, h1, h2, h3⟩ := hrel
        have K4 : Hid _ := h1
        have UC4 : Hid (Upd [bQ, bS] W3 wr) := h2
        have FF4 : Hid (∀ k ∈ fI4.flatten, W3.heap.size ≤ k) := h3
        have UW4 : Hid (Upd [] w1 wr) := U13.out.trans h2 (fun k hk => .inr (LOW.out k hk))
        clear h1 h2 h3
        by_cases hlt : i < cs1.length
        · as_aux_lemma =>
          obtain ⟨C, hC⟩ := has_at cs1 hlt
          have PW := P1.out.grow UW4.out
          obtain ⟨bX, ⟨sa0, sn0, sc0⟩, ⟨sa1, sn1, sc1⟩, e1, e2, e3, e4, e5, e6', e7, e8, e9, e10, e11⟩ := PW.ch.at hC
          simp only at e4 e6'
          have hn0 : sn0 = C.a0.f.length := e10.1
          have hn1 : sn1 = C.a1.f.length := e11.1
          subst hn0 hn1
          have HC : Hid (cs1[i]? = some C) := hC
          have HCM : Hid (C ∈ cs1) := List.mem_of_getElem? hC
          have nF : ∀ k ∈ fR, k ∉ [bQ, bS] := fun k hk hm => by have := LOW.out k hm; have := P1.out.lt k (by simp [hk]); omega
          have PC := P1.out.grow U13.out
          obtain ⟨bX', s0', s1', x1, x2, x3, x4, x5, x6, x7, x8, x9, x10, x11⟩ := PC.ch.at hC
          rw [e3] at x3; injection x3 with x3; injection x3 with x3a x3b
          subst x3a x3b
          have RV0 : Hid (∀ (j x : Nat), C.a0.f[j]? = some x → ∃ b, sa0 = some ⟨b, 0, none⟩ ∧ b ∉ [bQ, bS] ∧ W3.cell? ⟨b, j, none⟩ = some (.int .i64 x)) := fun j x hx => by
            obtain ⟨b, q1, q2, q3⟩ := x10.2.2.2 j x hx
            exact ⟨b, q2, nF b q1, q3⟩
          have RV1 : Hid (∀ (j x : Nat), C.a1.f[j]? = some x → ∃ b, sa1 = some ⟨b, 0, none⟩ ∧ b ∉ [bQ, bS] ∧ W3.cell? ⟨b, j, none⟩ = some (.int .i64 x)) := fun j x hx => by
            obtain ⟨b, q1, q2, q3⟩ := x11.2.2.2 j x hx
            exact ⟨b, q2, nF b q1, q3⟩
          have BW : Hid (wt (chosen G (cs1.take i)) < 900000) := by
            have bw := chosen_wt (cs1.take i) G (fun D hD => HFL.out D (List.mem_of_mem_take hD))
            have tl : (cs1.take i).length ≤ 60 := by simp; omega
            show wt (chosen G (cs1.take i)) < 900000
            omega
          have hvn : v.a = some ⟨bX, 0, none⟩ := e1
          rw [hvn]
          have hw2 := WY1.out C HCM.out
          have hw3 : C.way = 0 ∨ C.way = 1 := by omega
          clear hC PW PC e1 e2 e3 e9 e10 e11 x1 x2 x4 x5 x6 x7 x8 x9 x10 x11 nF hvn hw2
          rcases hw3 with hw | hw
          · skip
            have hwq : C.way = 0 := hw
            rw [hwq] at e8
            have alt : altC C = C.a0 := by unfold altC; rw [hwq]; rfl
            have ALT : Hid (altC C = C.a0) := alt
            have HWQ : Hid (C.way = 0) := hwq
            clear hw hwq alt
            as_aux_lemma =>
            go_upto_region 8 with fail
            obtain ⟨b7, hb7⟩ : ∃ b, b = wr.heap.size := ⟨_, rfl⟩
            obtain ⟨W5, hW5⟩ : ∃ z : World, z = wr.alloc (.cells #[.slice sa0 C.a0.f.length sc0, .int .i64 C.a0.i, .slice sa1 C.a1.f.length sc1, .int .i64 C.a1.i, .int .i64 0] 164) := ⟨_, rfl⟩
            have X5 : Blk W5 b7 164 #[.slice sa0 C.a0.f.length sc0, .int .i64 C.a0.i, .slice sa1 C.a1.f.length sc1, .int .i64 C.a1.i, .int .i64 0] := by rw [hW5, hb7]; exact Blk.new _ _ _
            have U5 : Upd [] wr W5 := by rw [hW5]; exact Upd.alloc _ _ _
            have e5' : ((0 : Nat) : Int) = 0 := rfl
            try rw [e5']
            rw [← hW5, ← hb7]
            have x4 : W5.cell? ⟨b7, 4, none⟩ = some (.int .i64 0) := X5.cell 4
            have xa : W5.cell? ⟨b7, 0, none⟩ = some (.slice sa0 C.a0.f.length sc0) := X5.cell 0
            have xb : W5.cell? ⟨b7, 1, none⟩ = some (.int .i64 C.a0.i) := X5.cell 1
            have K5 : Hid _ := K4.out.keep U5 (by simp) (by simp)
            have UC5 : Hid (Upd [bQ, bS] W3 W5) := UC4.out.trans U5 (by simp)
            clear hW5 U5 hb7 e4 e5 e6' e7 e8 X5 e5'
            go_upto_region 9 with fail
            obtain ⟨bL, hbL⟩ : ∃ b, b = W5.heap.size := ⟨_, rfl⟩
            obtain ⟨W2, hW2⟩ : ∃ z : World, z = W5.alloc (.cells #[.slice sa0 C.a0.f.length sc0, .int .i64 C.a0.i] 161) := ⟨_, rfl⟩
            have XL : Blk W2 bL 161 #[.slice sa0 C.a0.f.length sc0, .int .i64 C.a0.i] := by rw [hW2, hbL]; exact Blk.new _ _ _
            have U2 : Upd [] W5 W2 := by rw [hW2]; exact Upd.alloc _ _ _
            rw [← hW2, ← hbL]
            have c0 : W2.cell? ⟨bL, 0, none⟩ = some (.slice sa0 C.a0.f.length sc0) := XL.cell 0
            have K2 : Hid _ := K5.out.keep U2 (by simp) (by simp)
            have UC2 : Hid (Upd [bQ, bS] W3 W2) := UC5.out.trans U2 (by simp)
            have XLH : Hid (Blk W2 bL 161 #[.slice sa0 C.a0.f.length sc0, .int .i64 C.a0.i]) := XL
            have LBL : Hid (W3.heap.size ≤ bL) := by
              have := UC5.out.size
              show W3.heap.size ≤ bL
              omega
            have NBL : Hid (bL ∉ bS :: fI4.flatten) := fun hm => by
              have := (K5.out.own bL (by simp only [List.mem_cons] at hm ⊢; exact .inr hm)).2
              omega
            clear hW2 hbL XL U2 x4 xa xb
            go_wp2_with fail
            clear c0
            go_loopw [38] (fun t38 wx => ∃ (r : Nat) (Y6 : List SV) (fI6 : List (List Nat)), r ≤ C.a0.f.length ∧ t38 = .int .i64 r ∧ GrK lo wx bQ bS aJ (arcsTo (chosen G (cs1.take i)) (C.a0.f.take r) C.a0.i) J Y6 fI6 ∧ Upd [bQ, bS] W3 wx ∧ (∀ k ∈ fI6.flatten, W3.heap.size ≤ k) ∧ Blk wx bL 161 #[.slice sa0 C.a0.f.length sc0, .int .i64 C.a0.i] ∧ bL ∉ bS :: fI6.flatten) (fun a _ => C.a0.f.length - (intOf a).toNat)
            case atStart => exact ⟨0, Y4, fI4, by omega, rfl, by simpa [arcsTo] using K2.out, UC2.out, FF4.out, XLH.out, NBL.out⟩
            case round =>
              obtain ⟨r, Y6, fI6, hr, rfl, i1, i2, i3, i4, i5⟩ := hrel
              have hfb : C.a0.f.length ≤ 100 := by have := HFL.out C HCM.out; omega
              have K6 : Hid _ := i1
              have UC6 : Hid (Upd [bQ, bS] W3 wr) := i2
              have FF6 : Hid (∀ k ∈ fI6.flatten, W3.heap.size ≤ k) := i3
              have XL6 : Hid (Blk wr bL 161 #[.slice sa0 C.a0.f.length sc0, .int .i64 C.a0.i]) := i4
              have NB6 : Hid (bL ∉ bS :: fI6.flatten) := i5
              by_cases hlt3 : r < C.a0.f.length
              · as_aux_lemma =>
                obtain ⟨t, ht⟩ := has_at C.a0.f hlt3
                obtain ⟨bf, z1, z2, z4⟩ := RV0.out r t ht
                subst z1
                have z3 := i2.cell z4 z2
                have c1 : wr.cell? ⟨bL, 1, none⟩ = some (.int .i64 C.a0.i) := i4.cell 1
                have htG := (HFB.out C HCM.out).1.1 t (List.mem_of_getElem? ht)
                have hwb := arcsTo_wt C.a0.i (C.a0.f.take r) (chosen G (cs1.take i))
                have htl : (C.a0.f.take r).length ≤ 100 := by have := HFL.out C HCM.out; simp; omega
                have bw := BW.out
                have KA : Hid _ := addArcK i1 t C.a0.i (by rw [arcsTo_len, chosen_len]; exact htG) (by rw [arcsTo_len, chosen_len]; omega) (by omega)
                have FT : Hid (C.a0.f[r]? = some t) := ht
                clear i1 i2 i3 i4 i5 ht z4 htG hwb htl bw
                go_wp2_with fail
                refine Calls.mono KA.out ?_
                rintro e w6 ⟨rfl, Y7, fI7, p1, p2, p3⟩
                have P1 : Hid _ := p1
                have zz := UC6.out.size
                have U7 : Hid (Upd [bQ, bS] W3 w6) := UC6.out.trans p2 (fun k hk => by
                  simp only [List.mem_cons] at hk ⊢
                  rcases hk with hk | hk
                  · exact .inl (.inr (.inl hk))
                  · exact .inr (FF6.out k hk))
                have F7 : Hid (∀ k ∈ fI7.flatten, W3.heap.size ≤ k) := fun k hk => by
                  rcases p3 k hk with z | z
                  · exact FF6.out k z
                  · omega
                have X7 : Hid (Blk w6 bL 161 #[.slice (some ⟨bf, 0, none⟩) C.a0.f.length sc0, .int .i64 C.a0.i]) := Blk.keep XL6.out p2 NB6.out
                have bLl : bL < wr.heap.size := Blk.lt XL6.out
                have N7 : Hid (bL ∉ bS :: fI7.flatten) := fun hm => by
                  simp only [List.mem_cons] at hm
                  rcases hm with hm | hm
                  · exact NB6.out (by simp [hm])
                  · rcases p3 bL hm with z | z
                    · exact NB6.out (by simp only [List.mem_cons]; exact .inr z)
                    · omega
                clear p1 p2 p3 KA z3 c1
                go_wp2_with fail
                have e9 : arcsTo (chosen G (cs1.take i)) (C.a0.f.take (r + 1)) C.a0.i = arc (arcsTo (chosen G (cs1.take i)) (C.a0.f.take r) C.a0.i) t C.a0.i := by
                  rw [List.take_add_one, FT.out]
                  simp [arcsTo]
                exact ⟨⟨r + 1, Y7, fI7, by omega, by go_num, by rw [e9]; exact P1.out, U7.out, F7.out, X7.out, N7.out⟩, by simp [intOf] <;> omega⟩
              · as_aux_lemma =>
                have hr2 : r = C.a0.f.length := by omega
                have KN : Hid (GrK lo wr bQ bS aJ (chosen G (cs1.take (i + 1))) J Y6 fI6) := by
                  show GrK _ _ _ _ _ _ _ _ _
                  rw [List.take_add_one, HC.out, Option.toList_some, chosen_snoc, ALT.out]
                  have := K6.out
                  rw [hr2, List.take_length] at this
                  exact this
                clear i1 i2 i3 i4 i5
                go_wp2_with fail
                exact ⟨⟨i + 1, Y6, fI6, by omega, by go_num, KN.out, UC6.out, FF6.out⟩, by simp [intOf] <;> omega⟩
          · skip
            have hwq : C.way = 1 := hw
            rw [hwq] at e8
            have alt : altC C = C.a1 := by unfold altC; rw [hwq]; rfl
            have ALT : Hid (altC C = C.a1) := alt
            have HWQ : Hid (C.way = 1) := hwq
            clear hw hwq alt
            as_aux_lemma =>
            go_upto_region 8 with fail
            obtain ⟨b7, hb7⟩ : ∃ b, b = wr.heap.size := ⟨_, rfl⟩
            obtain ⟨W5, hW5⟩ : ∃ z : World, z = wr.alloc (.cells #[.slice sa0 C.a0.f.length sc0, .int .i64 C.a0.i, .slice sa1 C.a1.f.length sc1, .int .i64 C.a1.i, .int .i64 1] 164) := ⟨_, rfl⟩
            have X5 : Blk W5 b7 164 #[.slice sa0 C.a0.f.length sc0, .int .i64 C.a0.i, .slice sa1 C.a1.f.length sc1, .int .i64 C.a1.i, .int .i64 1] := by rw [hW5, hb7]; exact Blk.new _ _ _
            have U5 : Upd [] wr W5 := by rw [hW5]; exact Upd.alloc _ _ _
            have e5' : ((1 : Nat) : Int) = 1 := rfl
            try rw [e5']
            rw [← hW5, ← hb7]
            have x4 : W5.cell? ⟨b7, 4, none⟩ = some (.int .i64 1) := X5.cell 4
            have xa : W5.cell? ⟨b7, 2, none⟩ = some (.slice sa1 C.a1.f.length sc1) := X5.cell 2
            have xb : W5.cell? ⟨b7, 3, none⟩ = some (.int .i64 C.a1.i) := X5.cell 3
            have K5 : Hid _ := K4.out.keep U5 (by simp) (by simp)
            have UC5 : Hid (Upd [bQ, bS] W3 W5) := UC4.out.trans U5 (by simp)
            clear hW5 U5 hb7 e4 e5 e6' e7 e8 X5 e5'
            go_upto_region 9 with fail
            obtain ⟨bL, hbL⟩ : ∃ b, b = W5.heap.size := ⟨_, rfl⟩
            obtain ⟨W2, hW2⟩ : ∃ z : World, z = W5.alloc (.cells #[.slice sa1 C.a1.f.length sc1, .int .i64 C.a1.i] 161) := ⟨_, rfl⟩
            have XL : Blk W2 bL 161 #[.slice sa1 C.a1.f.length sc1, .int .i64 C.a1.i] := by rw [hW2, hbL]; exact Blk.new _ _ _
            have U2 : Upd [] W5 W2 := by rw [hW2]; exact Upd.alloc _ _ _
            rw [← hW2, ← hbL]
            have c0 : W2.cell? ⟨bL, 0, none⟩ = some (.slice sa1 C.a1.f.length sc1) := XL.cell 0
            have K2 : Hid _ := K5.out.keep U2 (by simp) (by simp)
            have UC2 : Hid (Upd [bQ, bS] W3 W2) := UC5.out.trans U2 (by simp)
            have XLH : Hid (Blk W2 bL 161 #[.slice sa1 C.a1.f.length sc1, .int .i64 C.a1.i]) := XL
            have LBL : Hid (W3.heap.size ≤ bL) := by
              have := UC5.out.size
              show W3.heap.size ≤ bL
              omega
            have NBL : Hid (bL ∉ bS :: fI4.flatten) := fun hm => by
              have := (K5.out.own bL (by simp only [List.mem_cons] at hm ⊢; exact .inr hm)).2
              omega
            clear hW2 hbL XL U2 x4 xa xb
            go_wp2_with fail
            clear c0
            go_loopw [38] (fun t38 wx => ∃ (r : Nat) (Y6 : List SV) (fI6 : List (List Nat)), r ≤ C.a1.f.length ∧ t38 = .int .i64 r ∧ GrK lo wx bQ bS aJ (arcsTo (chosen G (cs1.take i)) (C.a1.f.take r) C.a1.i) J Y6 fI6 ∧ Upd [bQ, bS] W3 wx ∧ (∀ k ∈ fI6.flatten, W3.heap.size ≤ k) ∧ Blk wx bL 161 #[.slice sa1 C.a1.f.length sc1, .int .i64 C.a1.i] ∧ bL ∉ bS :: fI6.flatten) (fun a _ => C.a1.f.length - (intOf a).toNat)
            case atStart => exact ⟨0, Y4, fI4, by omega, rfl, by simpa [arcsTo] using K2.out, UC2.out, FF4.out, XLH.out, NBL.out⟩
            case round =>
              obtain ⟨r, Y6, fI6, hr, rfl, i1, i2, i3, i4, i5⟩ := hrel
              have hfb : C.a1.f.length ≤ 100 := by have := HFL.out C HCM.out; omega
              have K6 : Hid _ := i1
              have UC6 : Hid (Upd [bQ, bS] W3 wr) := i2
              have FF6 : Hid (∀ k ∈ fI6.flatten, W3.heap.size ≤ k) := i3
              have XL6 : Hid (Blk wr bL 161 #[.slice sa1 C.a1.f.length sc1, .int .i64 C.a1.i]) := i4
              have NB6 : Hid (bL ∉ bS :: fI6.flatten) := i5
              by_cases hlt3 : r < C.a1.f.length
              · as_aux_lemma =>
                obtain ⟨t, ht⟩ := has_at C.a1.f hlt3
                obtain ⟨bf, z1, z2, z4⟩ := RV1.out r t ht
                subst z1
                have z3 := i2.cell z4 z2
                have c1 : wr.cell? ⟨bL, 1, none⟩ = some (.int .i64 C.a1.i) := i4.cell 1
                have htG := (HFB.out C HCM.out).1.2 t (List.mem_of_getElem? ht)
                have hwb := arcsTo_wt C.a1.i (C.a1.f.take r) (chosen G (cs1.take i))
                have htl : (C.a1.f.take r).length ≤ 100 := by have := HFL.out C HCM.out; simp; omega
                have bw := BW.out
                have KA : Hid _ := addArcK i1 t C.a1.i (by rw [arcsTo_len, chosen_len]; exact htG) (by rw [arcsTo_len, chosen_len]; omega) (by omega)
                have FT : Hid (C.a1.f[r]? = some t) := ht
                clear i1 i2 i3 i4 i5 ht z4 htG hwb htl bw
                go_wp2_with fail
                refine Calls.mono KA.out ?_
                rintro e w6 ⟨rfl, Y7, fI7, p1, p2, p3⟩
                have P1 : Hid _ := p1
                have zz := UC6.out.size
                have U7 : Hid (Upd [bQ, bS] W3 w6) := UC6.out.trans p2 (fun k hk => by
                  simp only [List.mem_cons] at hk ⊢
                  rcases hk with hk | hk
                  · exact .inl (.inr (.inl hk))
                  · exact .inr (FF6.out k hk))
                have F7 : Hid (∀ k ∈ fI7.flatten, W3.heap.size ≤ k) := fun k hk => by
                  rcases p3 k hk with z | z
                  · exact FF6.out k z
                  · omega
                have X7 : Hid (Blk w6 bL 161 #[.slice (some ⟨bf, 0, none⟩) C.a1.f.length sc1, .int .i64 C.a1.i]) := Blk.keep XL6.out p2 NB6.out
                have bLl : bL < wr.heap.size := Blk.lt XL6.out
                have N7 : Hid (bL ∉ bS :: fI7.flatten) := fun hm => by
                  simp only [List.mem_cons] at hm
                  rcases hm with hm | hm
                  · exact NB6.out (by simp [hm])
                  · rcases p3 bL hm with z | z
                    · exact NB6.out (by simp only [List.mem_cons]; exact .inr z)
                    · omega
                clear p1 p2 p3 KA z3 c1
                go_wp2_with fail
                have e9 : arcsTo (chosen G (cs1.take i)) (C.a1.f.take (r + 1)) C.a1.i = arc (arcsTo (chosen G (cs1.take i)) (C.a1.f.take r) C.a1.i) t C.a1.i := by
                  rw [List.take_add_one, FT.out]
                  simp [arcsTo]
                exact ⟨⟨r + 1, Y7, fI7, by omega, by go_num, by rw [e9]; exact P1.out, U7.out, F7.out, X7.out, N7.out⟩, by simp [intOf] <;> omega⟩
              · as_aux_lemma =>
                have hr2 : r = C.a1.f.length := by omega
                have KN : Hid (GrK lo wr bQ bS aJ (chosen G (cs1.take (i + 1))) J Y6 fI6) := by
                  show GrK _ _ _ _ _ _ _ _ _
                  rw [List.take_add_one, HC.out, Option.toList_some, chosen_snoc, ALT.out]
                  have := K6.out
                  rw [hr2, List.take_length] at this
                  exact this
                clear i1 i2 i3 i4 i5
                go_wp2_with fail
                exact ⟨⟨i + 1, Y6, fI6, by omega, by go_num, KN.out, UC6.out, FF6.out⟩, by simp [intOf] <;> omega⟩
        · as_aux_lemma =>
          have hi2 : i = cs1.length := by omega
          have KF : Hid (GrK lo wr bQ bS aJ (chosen G cs1) J Y4 fI4) := by
            have := K4.out
            rw [hi2, List.take_length] at this
            exact this
          have CLT := chosen_lt HG.out (cs := cs1) (fun C hC => by have := (HFB.out C hC).2; omega)
          have hwc : wt (chosen G cs1) < 1000000 := by
            have := chosen_wt cs1 G HFL.out
            omega
          have KO : Hid _ := order47 wr bQ 0 (chosen G cs1) J (KF.out.read (by rw [chosen_len]; omega)) (by rw [chosen_len]; omega) (fun r hr x hx => by
            obtain ⟨u, hu⟩ := List.getElem?_of_mem hr
            exact CLT u x (by simp [outs, List.getD_eq_getElem?_getD, hu, hx])) hwc
          clear CLT hwc
          go_wp2_with fail
          refine Calls.mono KO.out ?_
          rintro e w4 ⟨vP, D, fP, rfl, tr, hcn, s1, s2, B4⟩
          have all : ∀ x, x < G.length → x ∈ D := fun x hx => AC1.out.placed (J := J) hcn x (by rw [chosen_len]; exact hx)
          have ALL : Hid (∀ x, x < G.length → x ∈ D) := all
          have TR : Hid _ := tr
          obtain ⟨P, hPq⟩ : ∃ P, P = D.filter (fun v => !juncAt J v) := ⟨_, rfl⟩
          rw [← hPq] at s1
          have nd : P.Nodup := by rw [hPq]; exact List.Nodup.sublist List.filter_sublist tr.nodup
          have mem : ∀ x, x ∈ P ↔ x < m := fun x => by
            rw [hPq, List.mem_filter]
            constructor
            · rintro ⟨q1, q2⟩
              have := tr.lt x q1
              rw [chosen_len] at this
              exact (HJ.out x this).mp (by simpa using q2)
            · intro hx
              exact ⟨all x (by omega), by simp [(HJ.out x (by omega)).mpr hx]⟩
          have hlen : vP.n = P.length := by have := s1.len; simp at this; omega
          have U4 : Upd [] w1 w4 := UW4.out.trans (upd_below B4) (by simp)
          have S1 : Hid _ := s1
          have HPQ : Hid (P = D.filter (fun v => !juncAt J v)) := hPq
          have s1' := s1
          rw [hlen] at s1'
          have K48 : Hid _ := takeUp48g w4 d m bN bF hm g1 G J sg ss og os v fT fR cs1 vs (P1.out.grow U4) vP.a vP.c P fP s1' nd mem SH.out.oo SH.out.sr hlo hls (by omega)
          rw [← hlen] at K48
          have U4H : Hid (Upd [] w1 w4) := U4
          have S2 : Hid (∀ k ∈ fP, w1.heap.size ≤ k) := fun k hk => by
            have := s2 k hk
            have := UW4.out.size
            omega
          have HLN : Hid (vP.n = P.length) := hlen
          clear s1 s2 s1' tr hcn all nd mem hlen U4 B4 KO hPq
          go_wp2_with fail
          refine Calls.mono K48.out ?_
          rintro e w5 ⟨nw, g5, v5, fT5, fR5, vs5, rfl, q1, q2, q3, q4, q5, q6⟩
          have NW : Hid _ := q1
          have P5 : Hid _ := q3
          have U5 : Hid (Upd [d] w w5) := (U1.out.trans U4H.out (by simp)).trans q4 (fun k hk => by
            simp only [List.mem_cons] at hk
            rcases hk with rfl | hk
            · exact .inl (by simp)
            · exact .inr (FRH.out k (by simp [hk])))
          have F5 : Hid (∀ k ∈ fT5 ++ fR5, w.heap.size ≤ k) := fun k hk => by
            rcases q5 k hk with z | z
            · exact FRH.out k z
            · have := U1.out.size
              have := U4H.out.size
              omega
          have Q4 : Hid (Upd (d :: fT) w4 w5) := q4
          clear q1 q2 q3 q4 q5 q6 K48
          by_cases hnw : nw = []
          · as_aux_lemma =>
            subst hnw
            have hb : decide (0 < ([] : List (Nat × Nat × Nat)).length) = false := rfl
            rw [hb]
            go_wp2_with fail
            go_ret2
            refine ⟨U5.out, (P5.out.cell (j := 0) rfl).1, .inr ⟨vP, P, fP, D, chosen G cs1, rfl, ?_, HPQ.out, TR.out, chosen_len _ _, chosen_lt HG.out (cs := cs1) (fun C hC => by have := (HFB.out C hC).2; omega), fun x y hy => chosen_old cs1 G x y hy, ALL.out, NW.out⟩⟩
            refine S1.out.keep Q4.out (fun k hk hm => ?_)
            have z1 := S2.out k hk
            have z2 := U1.out.size
            simp only [List.mem_cons] at hm
            rcases hm with rfl | hm
            · omega
            · have := P1.out.lt k (by simp [hm]); omega
          · as_aux_lemma =>
            have hnl : 0 < nw.length := List.length_pos_iff.mpr hnw
            have hb : decide (0 < nw.length) = true := by simpa using hnl
            rw [hb]
            have PR5 : PRI ss os (PR ++ nw) := PRH.out.more SH.out hmG SM1.out TR.out ALL.out (fun x hx => (HJ.out x (by omega)).mpr hx) (by rw [← HPQ.out]; exact NW.out)
            have l5 := PR5.len SH.out
            rw [List.length_append] at l5
            have PRH5 : Hid _ := PR5
            clear PR5
            go_wp2_with fail
            go_roundg (60 - (PR ++ nw).length)
            case measure => have := MQ.out; rw [List.length_append]; omega
            case rel =>
              refine ⟨PR ++ nw, g5, v5, fT5, fR5, cs1 ++ nw.map (choOf ss), vs5, rfl, PRH5.out, P5.out, ?_, fun C hC => ?_, U5.out, F5.out⟩
              · rw [List.map_append]; exact SM1.out.append
              · rcases List.mem_append.mp hC with z | z
                · exact WY1.out C z
                · obtain ⟨p, _, rfl⟩ := List.mem_map.mp z
                  exact choOf_way ss p
    · have P5 : Hid (K ≠ [] ∧ K.length ≤ 12) := p5
      have P6 : Hid (∀ x ∈ K, x < m) := p6
      have P7 : Hid _ := p7
      clear p5 p6 p7
      as_aux_lemma =>
      go_wp2_with fail
      go_ret2
      exact ⟨U1.out, (P1.out.cell (j := 0) rfl).1, .inl ⟨b, c, K, rfl, P5.out, P6.out, P7.out⟩⟩
end Go.Proofs.YbulkctquGreatFmt

/-
  tangle: search, walked.
-/
import Derived.Test.YbulkctquGreatFmtTgG
namespace Go.Proofs.YbulkctquGreatFmt
open Go.ChangeShapes Go.WideShapes Go.ChangeAt Go.RowKit Go.Ord
set_option linter.unusedVariables false
attribute [local go_sem ↓] Go.wp_at_zero Go.wp_at_succ

theorem TrB.top {bT : Nat} {fT : List Nat} {tr : List Stp} {s : Stp} {w : World} (h : TrB bT fT (tr ++ [s]) w) : ∃ g c, fT = [g] ∧ w.cell? ⟨bT, 0, none⟩ = some (.slice (some ⟨g, 0, none⟩) (tr.length + 1) c) ∧ w.frozen? ⟨bT, 0, none⟩ = false ∧ w.cell? ⟨g, tr.length * 2, none⟩ = some (.int .i64 s.c) ∧ w.cell? ⟨g, tr.length * 2 + 1, none⟩ = some (.bool s.g) ∧ tr.length + 1 ≤ c ∧ c ≤ 9223372036854775807 ∧
    ∀ w', Upd [bT] w w' → w'.cell? ⟨bT, 0, none⟩ = some (.slice (some ⟨g, 0, none⟩) tr.length c) → w'.frozen? ⟨bT, 0, none⟩ = false → TrB bT fT tr w' := by
  obtain ⟨a, c, h1, h2, h3⟩ := h.box
  rw [List.length_append, List.length_singleton] at h1 h3
  obtain ⟨g, e1, e2, _, e3, e4⟩ := h3.has (by omega)
  subst e1
  have hl := stC_len tr
  refine ⟨g, c, e2, h1, h2, ?_, ?_, h3.le.1, h3.le.2, ?_⟩
  · rw [e3 _ (by omega), List.flatMap_append, List.getElem?_append_right (by omega), hl]
    simp [stC, nI]
  · rw [e3 _ (by omega), List.flatMap_append, List.getElem?_append_right (by omega), hl]
    simp [stC]
  · intro w' hu hc hz
    refine ⟨⟨some ⟨g, 0, none⟩, c, hc, hz, ?_⟩, h.nd⟩
    have k := h3.keep hu (fun k hk hm => by simp at hm; subst hm; exact h.nd hk)
    refine ⟨by omega, ?_⟩
    rcases k.lies with ⟨e, _⟩ | ⟨g', cur, i1, i2, i3, i4, i5, i6, i7⟩
    · cases e
    · refine .inr ⟨g', cur, i1, i2, i3, by omega, i5, i6, ?_⟩
      rw [List.flatMap_append] at i7
      have : (cur.toList.take ((tr.length + 1) * 2)).take (tr.length * 2) = tr.flatMap stC := by rw [i7, List.take_left' (by omega)]
      rw [List.take_take] at this
      rw [← this]; congr 1; omega
theorem psum_false {n : Nat} {tr nw : List Stp} (h : ∀ s ∈ nw, s.g = false) : psum n (tr ++ nw) = psum n tr := by
  generalize hl : nw.length = l
  induction l generalizing nw with
  | zero => rw [List.length_eq_zero_iff.mp hl]; simp
  | succ l ih =>
    rcases List.eq_nil_or_concat nw with rfl | ⟨nw', s, rfl⟩
    · simp at hl
    · rw [List.concat_eq_append] at *
      rw [← List.append_assoc, psum_snoc, ih (fun t ht => h t (by simp [ht])) (by simpa using hl), h s (by simp)]
      simp
theorem Wk_60' : Wk 60 < 9223372036854775000 := by decide
/-- What search hands back. -/
def SkPost (d bW cW bC cC bE : Nat) (fV : List Nat) (ws : List (Alt × Alt)) (B : List (List Nat)) (J : List Bool) (g : GG) (w : World) : Ending → World → Prop := fun e w' =>
  ∃ (b : Bool) (g' : GG) (G' : List (List Nat)) (ch' se' : List Int) (st' : Int) (tr : List Stp), e = .returned (.bool b) ∧ TG d bW cW bC cC bE fV g' G' J ws ch' se' st' w' ∧ TS ws B G' ch' tr ∧ (b = true → tr.length = ws.length) ∧ Upd (tanFp d g bC bE) w w' ∧ ∀ k ∈ tanFp d g' bC bE, k ∈ tanFp d g bC bE ∨ w.heap.size ≤ k

set_option maxHeartbeats 8000000 in
set_option maxRecDepth 100000 in
theorem search96 {d bW cW bC cC bE : Nat} {fV : List Nat} {ws : List (Alt × Alt)} {B : List (List Nat)} {J : List Bool} {g : GG} {se : List Int} {w : World} (H : TG d bW cW bC cC bE fV g B J ws (List.replicate ws.length (-1)) se 0 w) (KK : TK ws B) (hse : ∀ y ∈ se, y = 0)
    (bP cP : Nat) (pf : List Nat) (hpl : pf.length = ws.length) (hp1 : ∀ x ∈ pf, x ≤ 1) (hP : ∀ (j x : Nat), pf[j]? = some x → w.cell? ⟨bP, j, none⟩ = some (.int .i64 x)) (hPn : bP ∉ tanFp d g bC bE) :
    Calls Ybaz.prog 96 #[.pointer (some ⟨d, 0, none⟩), .slice (some ⟨bP, 0, none⟩) ws.length cP] w (SkPost d bW cW bC cC bE fV ws B J g w) := by
  have HH : Hid _ := H
  have KH : Hid _ := KK
  have hwl : ws.length ≤ 60 := KK.wl
  have HP : Hid (∀ (j x : Nat), pf[j]? = some x → w.cell? ⟨bP, j, none⟩ = some (.int .i64 x)) := hP
  have HP1 : Hid (∀ x ∈ pf, x ≤ 1) := hp1
  have HPN : Hid (bP ∉ tanFp d g bC bE) := hPn
  have HPL : Hid (pf.length = ws.length) := hpl
  have ltT := H.lt
  have LT : Hid (∀ k ∈ tanFp d g bC bE, k < w.heap.size) := ltT
  have T0 : Hid (TX d bW cW bC cC bE w.heap.size fV ws B J g [] B (List.replicate ws.length (-1)) se 0 [] (w.alloc (.cells #[.slice none 0 0] 229))) := by
    have U := Upd.alloc [] w (.cells #[.slice none 0 0] 229)
    have X := Blk.new w #[.slice none 0 0] 229
    refine ⟨H.grow U, TS.start, ⟨⟨none, 0, X.cell 0, X.free 0, Sl.empty _ _ _⟩, by simp⟩, fun y hy => by rw [hse y hy]; omega, by omega, ?_⟩
    intro k hk
    simp at hk
    subst hk
    exact ⟨fun hm => by have := H.lt _ hm; omega, fun hm => by have := H.wv.lt _ hm; omega⟩
  have U0 : Hid (Upd (tanFp d g bC bE) w (w.alloc (.cells #[.slice none 0 0] 229))) := Upd.alloc _ _ _
  have WK := Wk_le (u := ws.length) (v := 60) (by omega)
  have W6 := Wk_60'
  have hK0 : Wk ws.length < 9223372036854775000 := by omega
  clear H KK hse hP hp1 hPn hpl ltT WK W6
  go_enter Ybaz.func96, Ybaz.ntmps96
  go_upto_region 2 with fail
  obtain ⟨bT, hbT⟩ : ∃ b, b = w.heap.size := ⟨_, rfl⟩
  obtain ⟨W0, hW0⟩ : ∃ z : World, z = w.alloc (.cells #[.slice none 0 0] 229) := ⟨_, rfl⟩
  rw [← hbT] at T0 ⊢
  rw [← hW0] at T0 U0 ⊢
  have BT : Hid (w.heap.size ≤ bT) := by
    show w.heap.size ≤ bT
    omega
  clear hbT hW0
  go_loopg [6] (Wk ws.length) (fun m t6 wr => ∃ (g1 : GG) (fT1 : List Nat) (G1 : List (List Nat)) (ch1 se1 : List Int) (st1 : Int) (tr : List Stp), m = psum ws.length tr + Wk (ws.length - tr.length) ∧ TX d bW cW bC cC bE bT fV ws B J g1 fT1 G1 ch1 se1 st1 tr wr ∧ st1 + (m : Int) ≤ (Wk ws.length : Nat) ∧ Upd (tanFp d g bC bE) w wr ∧ ∀ k ∈ txFp d g1 bC bE bT fT1, k ∈ tanFp d g bC bE ∨ w.heap.size ≤ k)
  case atStart =>
    refine ⟨g, [], B, _, se, 0, [], by simp [psum], T0.out, by simp, U0.out, fun k hk => ?_⟩
    rcases List.mem_append.mp hk with hk | hk
    · exact .inl hk
    · simp at hk; subst hk; exact .inr BT.out
  case round =>
    obtain ⟨g1, fT1, G1, ch1, se1, st1, tr, rfl, h1, h2, h3, h4⟩ := hrel
    have T1 : Hid _ := h1
    have U1 : Hid (Upd (tanFp d g bC bE) w wr) := h3
    have F1 : Hid (∀ k ∈ txFp d g1 bC bE bT fT1, k ∈ tanFp d g bC bE ∨ w.heap.size ≤ k) := h4
    have s1 := h1.s0
    have WP := Wk_pos (ws.length - tr.length)
    have K111 : Hid _ := propagate111 h1 KH.out (Wk ws.length - psum ws.length tr) (by omega) (by omega)
    have H2 : Hid (st1 + ((psum ws.length tr + Wk (ws.length - tr.length) : Nat) : Int) ≤ (Wk ws.length : Nat)) := h2
    clear h1 h2 h3 h4
    go_wp2_with fail
    refine Calls.mono K111.out ?_
    rintro e w2 ⟨b, g2, fT2, G2, ch2, se2, st2, nw, rfl, p1, p2, p3, p4, p5, p6⟩
    have ps := psum_false (n := ws.length) (tr := tr) p2
    have htl : tr.length ≤ (tr ++ nw).length := by simp
    obtain ⟨tq, htq⟩ : ∃ q, q = tr ++ nw := ⟨_, rfl⟩
    rw [← htq] at p1 p3 ps htl
    clear htq
    have T2 : Hid _ := p1
    have S2 : Hid (st2 ≤ ((Wk ws.length - psum ws.length tr : Nat) : Int)) := p4
    have U2 : Hid (Upd (tanFp d g bC bE) w w2) := U1.out.trans p5 (fun k hk => F1.out k hk)
    have F2 : Hid (∀ k ∈ txFp d g2 bC bE bT fT2, k ∈ tanFp d g bC bE ∨ w.heap.size ≤ k) := fun k hk => by
      rcases p6 k hk with z | z
      · exact F1.out k z
      · exact .inr (by have := U1.out.size; omega)
    have PS : Hid (psum ws.length tq = psum ws.length tr) := ps
    have hsh := p1.ts.short
    clear K111 p2 p4 p5 p6 ps
    cases b with
    | true =>
      obtain ⟨o1, o2⟩ := p3 rfl
      have O1 : Hid (∀ c : Nat, ch2[c]? = some (-1) → OpenW G2 (altOf ws c 0) ∧ OpenW G2 (altOf ws c 1)) := o1
      have O2 : Hid (tq.length < ws.length → st2 + (2 * Wk (ws.length - tq.length - 1) : Nat) ≤ ((Wk ws.length - psum ws.length tr : Nat) : Int)) := o2
      have e3 := (p1.tg.cell (j := 3) rfl).1
      have lch := p1.tg.lens.1
      have KI : Hid _ := index113 w2 bC cC ch2 (by omega) (fun j x hx => (p1.tg.gch hx).1)
      rw [← lch] at e3
      have LCH : Hid (ch2.length = ws.length) := lch
      clear p1 p3 o1 o2 lch
      go_wp2_with fail
      refine Calls.mono KI.out ?_
      rintro e w3 ⟨rfl, hx⟩
      rcases hx with ⟨rfl, hx⟩ | ⟨k, rfl, hx⟩
      · as_aux_lemma =>
        have HX : Hid (∀ x ∈ ch2, x ≠ -1) := hx
        clear hx KI e3
        go_wp2_with fail
        go_ret
        refine ⟨true, g2, G2, ch2, se2, st2, tq, rfl, T2.out.tg, T2.out.ts, fun _ => ?_, U2.out, fun k hk => F2.out k (List.mem_append_left _ hk)⟩
        have cn := T2.out.ts.cn
        have : ch2.countP (fun x => x == -1) = 0 := by
          rw [List.countP_eq_zero]
          intro x hx
          simpa using HX.out x hx
        omega
      · as_aux_lemma =>
        have hk : k < ws.length := by have := (List.getElem?_eq_some_iff.mp hx).1; rw [LCH.out] at this; exact this
        have HX : Hid (ch2[k]? = some (-1)) := hx
        have hlen : tq.length < ws.length := by
          have cn := T2.out.ts.cn
          have : 0 < ch2.countP (fun x => x == -1) := List.countP_pos_iff.mpr ⟨-1, List.mem_of_getElem? hx, by simp⟩
          omega
        obtain ⟨pv, hpv⟩ := has_at pf (k := k) (by rw [HPL.out]; exact hk)
        have cP2 := U2.out.cell (HP.out k pv hpv) HPN.out
        have hpv1 := HP1.out pv (List.mem_of_getElem? hpv)
        have OP := O2.out hlen
        clear hx KI e3 hpv
        go_wp2_with fail
        refine Calls.mono (T2.out.pick KH.out (c := k) (v := pv) hk hpv1) ?_
        rintro e w4 ⟨rfl, g4, q1, q2, q3, q4, q5⟩
        have lt4 := q2.lt bT (by simp)
        obtain ⟨a, kc, x1, x2, x3⟩ := q2.box
        have S3 : Hid _ := x3
        have ND : Hid (bT ∉ fT2) := q2.nd
        have Q1 : Hid _ := q1
        have Q3 : Hid (∀ k ∈ bT :: fT2, k ∉ tanFp d g4 bC bE ∧ k ∉ fV) := q3
        have U4 : Hid (Upd (tanFp d g bC bE) w w4) := U2.out.trans q4 (fun k hk => F2.out k hk)
        have F4 : Hid (∀ k ∈ tanFp d g4 bC bE, k ∈ tanFp d g bC bE ∨ w.heap.size ≤ k) := fun k hk => by
          rcases q5 k hk with z | z
          · exact F2.out k (List.mem_append_left _ z)
          · exact .inr (by have := U2.out.size; omega)
        have F4b : Hid (∀ k ∈ bT :: fT2, w.heap.size ≤ k ∨ k ∈ tanFp d g bC bE) := fun k hk => (F2.out k (List.mem_append_right _ hk)).symm
        have hl9 : tq.length < 1000000 := by omega
        clear x3 q1 q2 q3 q4 q5 cP2
        go_wp2_with (first
          | (at_builtin; refine wpList_append_elem w4 _ (Upd.refl [] _) rfl (.tmp 26) (.tmp 29) 229 rfl 232 2 16 slSteps (by decide) a tq.length kc fT2 (tq.flatMap stC) rfl S3.out (by simp) [.int .i64 k, .bool true] rfl (by simp [Value.oneCell']) _ _ rfl (by simp) (by omega) ?_; intro gB cB w5 sB uB fB; go_loud (have y1 := uB.cell x1 (by simpa using ND.out)); go_loud (have y2 := uB.free lt4 x2 (by simpa using ND.out)); have SB : Hid _ := sB; have UB : Hid _ := uB; have FB : Hid _ := fB; clear sB uB fB))
        have gc : gB ≠ bT := by
          rintro rfl
          rcases FB.out with f | f
          · exact ND.out f
          · omega
        have st := Upd.store w5 bT 0 (.slice (some ⟨gB, 0, none⟩) (tq.length + 1) cB)
        obtain ⟨W6, hW6⟩ : ∃ z : World, z = w5.setCell ⟨bT, 0, none⟩ (.slice (some ⟨gB, 0, none⟩) (tq.length + 1) cB) := ⟨_, rfl⟩
        have TBn : TrB bT [gB] (tq ++ [⟨k, pv, true⟩]) W6 := by
          refine ⟨⟨some ⟨gB, 0, none⟩, cB, by rw [hW6]; simpa using set_same y1, by rw [hW6]; exact set_free y2, ?_⟩, by simpa using Ne.symm gc⟩
          have := SB.out.keep st (by simpa using gc)
          rw [hW6]
          simpa [stC, nI] using this
        have U46 : Upd (bT :: fT2) w4 W6 := by
          rw [hW6]
          exact (UB.out.mono (T := bT :: fT2) (fun k hk => .inl (by simp at hk; simp [hk]))).trans st (fun k hk => .inl (by simp at hk; simp [hk]))
        have OO := O1.out k HX.out
        have ov : OpenW G2 (altOf ws k pv) ∧ OpenW G2 (altOf ws k (1 - pv)) := by
          have : pv = 0 ∨ pv = 1 := by omega
          rcases this with rfl | rfl
          · exact OO
          · exact ⟨OO.2, OO.1⟩
        have T6 : TX d bW cW bC cC bE bT fV ws B J g4 [gB] (pickG G2 (altOf ws k pv)) (ch2.set k (pv : Int)) se2 st2 (tq ++ [⟨k, pv, true⟩]) W6 := by
          refine ⟨Q1.out.keep U46 (fun k hk hm => (Q3.out k hm).1 hk) (fun k hk hm => (Q3.out k hm).2 hk), T2.out.ts.push HX.out hpv1 ov.1 (fun _ => ov.2), TBn, T2.out.se, T2.out.s0, ?_⟩
          intro x hx
          simp only [List.mem_cons, List.not_mem_nil, or_false] at hx
          rcases hx with rfl | rfl
          · exact Q3.out x (by simp)
          · rcases FB.out with z | z
            · exact Q3.out x (by simp [z])
            · exact ⟨fun hm => by have := Q1.out.lt x hm; omega, fun hm => by have := Q1.out.wv.lt x hm; omega⟩
        have Z6 : Hid _ := T6
        have U6 : Hid (Upd (tanFp d g bC bE) w W6) := U4.out.trans U46 (fun k hk => (F4b.out k hk).symm)
        have F6 : Hid (∀ x ∈ txFp d g4 bC bE bT [gB], x ∈ tanFp d g bC bE ∨ w.heap.size ≤ x) := fun x hx => by
          rcases List.mem_append.mp hx with hx | hx
          · exact F4.out x hx
          · simp only [List.mem_cons, List.not_mem_nil, or_false] at hx
            rcases hx with rfl | rfl
            · exact .inr BT.out
            · rcases FB.out with z | z
              · exact (F4b.out x (by simp [z])).symm
              · exact .inr (by have := U4.out.size; omega)
        have PN := psum_snoc ws.length tq ⟨k, pv, true⟩
        rw [PS.out] at PN
        simp only [if_true] at PN
        have WE : Wk (ws.length - tq.length - 1 + 1) = 2 * (ws.length - tq.length - 1 + 1) + 2 * Wk (ws.length - tq.length - 1) := rfl
        have WL := Wk_le (u := ws.length - tq.length) (v := ws.length - tr.length) (by omega)
        rw [show ws.length - tq.length - 1 + 1 = ws.length - tq.length by omega] at WE
        have e9 : ws.length - (tq.length + 1) = ws.length - tq.length - 1 := by omega
        rw [e9] at PN
        have h2 := H2.out
        rw [← hW6]
        clear hW6 TBn U46 OO ov T6 st y1 y2 gc x1 x2
        go_roundg (psum ws.length tr + 2 * Wk (ws.length - tq.length - 1))
        case measure => omega
        case rel =>
          refine ⟨g4, [gB], _, _, se2, st2, tq ++ [⟨k, pv, true⟩], ?_, Z6.out, ?_, U6.out, F6.out⟩
          · rw [PN, List.length_append, List.length_singleton, e9]; omega
          · omega
    | false =>
      have HSH : Hid (tq.length ≤ ws.length) := hsh
      clear p1 p3
      go_wp2_with fail
      go_loopg [8] (tq.length) (fun m t8 wx => ∃ (g3 : GG) (fT3 : List Nat) (G3 : List (List Nat)) (ch3 : List Int) (tr3 : List Stp), m = tr3.length ∧ TX d bW cW bC cC bE bT fV ws B J g3 fT3 G3 ch3 se2 st2 tr3 wx ∧ psum ws.length tr3 = psum ws.length tr ∧ Upd (tanFp d g bC bE) w wx ∧ ∀ k ∈ txFp d g3 bC bE bT fT3, k ∈ tanFp d g bC bE ∨ w.heap.size ≤ k)
      case atStart => exact ⟨g2, fT2, G2, ch2, tq, rfl, T2.out, PS.out, U2.out, F2.out⟩
      case round =>
        obtain ⟨g3, fT3, G3, ch3, tr3, rfl, h1, h2, h3, h4⟩ := hrel
        have T3 : Hid _ := h1
        have U3 : Hid (Upd (tanFp d g bC bE) w wr) := h3
        have F3 : Hid (∀ k ∈ txFp d g3 bC bE bT fT3, k ∈ tanFp d g bC bE ∨ w.heap.size ≤ k) := h4
        rcases List.eq_nil_or_concat tr3 with rfl | ⟨t4, s, rfl⟩
        · as_aux_lemma =>
          obtain ⟨a, kc, x1, x2, x3⟩ := h1.tb.box
          simp only [List.length_nil] at x1
          clear h1 h2 h3 h4 x3
          go_wp2_with fail
          go_ret
          exact ⟨false, g3, G3, ch3, se2, st2, [], rfl, T3.out.tg, T3.out.ts, (fun hf => by cases hf), U3.out, fun k hk => F3.out k (List.mem_append_left _ hk)⟩
        · as_aux_lemma =>
          rw [List.concat_eq_append] at *
          obtain ⟨sc, sw, sg⟩ := s
          obtain ⟨gT, cT, x1, x2, x3, x4, x5, x6, x7, x8⟩ := h1.tb.top
          simp only at x4 x5
          have hs := h1.ts.lt ⟨sc, sw, sg⟩ (by simp)
          simp only at hs
          obtain ⟨hsc, hsw⟩ := hs
          have hch := h1.ts.c1 ⟨sc, sw, sg⟩ (by simp)
          simp only at hch
          have HCH : Hid (ch3[sc]? = some (sw : Int)) := hch
          have hsl := h1.ts.short
          have ht4 : t4.length < 1000 := by simp at hsl; omega
          have X8 : Hid _ := x8
          have P3 : Hid (psum ws.length (t4 ++ [⟨sc, sw, sg⟩]) = psum ws.length tr) := h2
          have X1 : Hid (fT3 = [gT]) := x1
          obtain ⟨bS, hbS⟩ : ∃ b, b = wr.heap.size := ⟨_, rfl⟩
          have hbT : bT < wr.heap.size := h1.tb.lt bT (by simp)
          have hcS : ∀ k ∈ txFp d g3 bC bE bT fT3, k < wr.heap.size := h1.lt
          have CS : Hid (∀ k ∈ txFp d g3 bC bE bT fT3, k < wr.heap.size) := hcS
          have VS : Hid (∀ k ∈ fV, k < wr.heap.size) := h1.tg.wv.lt
          clear h1 h2 h3 h4 x8 x1 hch hcS
          (try simp only [List.length_append, List.length_singleton])
          go_upto_region 11 with fail
          obtain ⟨W1, hW1⟩ : ∃ z : World, z = wr.alloc (.cells #[.int .i64 sc, .bool sg] 232) := ⟨_, rfl⟩
          have BS1 : Blk W1 bS 232 #[.int .i64 sc, .bool sg] := by rw [hW1, hbS]; exact Blk.new _ _ _
          have U31 : Upd [] wr W1 := by rw [hW1]; exact Upd.alloc _ _ _
          rw [← hW1, ← hbS]
          have HBS : Hid (bS = wr.heap.size) := hbS
          have y1 := U31.cell x2 (by simp)
          have y2 := U31.free hbT x3 (by simp)
          have hb1 : bT < W1.heap.size := Nat.lt_of_lt_of_le hbT U31.size
          have hbS1 : bS < W1.heap.size := BS1.lt
          have T31 : Hid _ := T3.out.keep U31 (by simp) (by simp)
          clear hW1 x2 x3 x4 x5 hbS
          go_upto_region 12 with fail
          obtain ⟨W2, hW2⟩ : ∃ z : World, z = W1.setCell ⟨bT, 0, none⟩ (.slice (some ⟨gT, 0, none⟩) t4.length cT) := ⟨_, rfl⟩
          have U12 : Upd [bT] W1 W2 := by rw [hW2]; exact Upd.store _ _ _ _
          have z1 : W2.cell? ⟨bT, 0, none⟩ = some (.slice (some ⟨gT, 0, none⟩) t4.length cT) := by rw [hW2]; exact set_same y1
          have z2 : W2.frozen? ⟨bT, 0, none⟩ = false := by rw [hW2]; exact set_free y2
          rw [← hW2]
          have TB2 : TrB bT fT3 t4 W2 := X8.out W2 (((U31.mono (T := [bT]) (by simp)).trans U12 (fun k hk => .inl hk))) z1 z2
          have bTn : ∀ k ∈ tanFp d g3 bC bE, k ∉ [bT] := fun k hk hm => by simp at hm; subst hm; exact (T3.out.dj _ (by simp)).1 hk
          have bVn : ∀ k ∈ fV, k ∉ [bT] := fun k hk hm => by simp at hm; subst hm; exact (T3.out.dj _ (by simp)).2 hk
          have TG2 := T31.out.tg.keep U12 bTn bVn
          have hbSn : bS ∉ [bT] := by
            have := HBS.out
            simp; omega
          have BS2 := Blk.keep BS1 U12 hbSn
          have e3 := (TG2.cell (j := 3) rfl).1
          have c0 : W2.cell? ⟨bS, 0, none⟩ = some (.int .i64 sc) := Blk.cell BS2 0
          have cw := (TG2.gch HCH.out).1
          have TG2H : Hid _ := TG2
          have TB2H : Hid _ := TB2
          have BS2H : Hid (Blk W2 bS 232 #[.int .i64 sc, .bool sg]) := BS2
          have U32 : Hid (Upd (bT :: tanFp d g3 bC bE) wr W2) := (U31.mono (by simp)).trans U12 (fun k hk => .inl (by simp at hk; simp [hk]))
          clear hW2 U31 U12 z1 z2 y1 y2 TG2 TB2 BS1 BS2 T31 X8
          go_big_quiet (fail)
          obtain ⟨W3, hW3⟩ : ∃ z : World, z = W2.drewN nq := ⟨_, rfl⟩
          have U23 : Upd [] W2 W3 := by rw [hW3]; exact Upd.drewN _ _ _
          rw [← hW3]
          have c0' := U23.cell c0 (by simp)
          have TG3 : Hid _ := TG2H.out.grow U23
          have POP := T3.out.ts.pop KH.out.wok
          simp only at POP
          have WW := KH.out.wok sc sw
          have IN := T3.out.ts.inn KH.out
          have K115 : Hid _ := unpick115 TG3.out sc sw HCH.out hsw (built ws B t4) POP.2 WW.1 (fun t ht => by rw [built_len]; exact WW.2.1 t ht) (by omega) (KH.out.fl sc sw) (by omega) (by rw [T3.out.ts.glen]; have := KH.out.gl; omega)
          have PO : Hid _ := POP.1
          clear hW3 c0 cw e3 POP WW IN
          go_wp2_with fail
          refine Calls.mono K115.out ?_
          rintro e w4 ⟨rfl, g4, q1, q2, q3⟩
          have hbS3 : bS ∉ tanFp d g3 bC bE := fun hm => by have := CS.out bS (List.mem_append_left _ hm); have := HBS.out; omega
          have BS4 : Blk w4 bS 232 #[.int .i64 sc, .bool sg] := Blk.keep (Blk.keep BS2H.out U23 (by simp)) q3 hbS3
          have TB4 : TrB bT fT3 t4 w4 := (TB2H.out.keep U23 (by simp)).keep q3 (fun k hk => (T3.out.dj k hk).1)
          have TX4 : TX d bW cW bC cC bE bT fV ws B J g4 fT3 (unpickG G3 (altOf ws sc sw)) (ch3.set sc (-1)) se2 st2 t4 w4 := ⟨q2, PO.out, TB4, T3.out.se, T3.out.s0, fun k hk => by have := T3.out.dj k hk; rw [tanFp, q1]; exact this⟩
          have U4 : Hid (Upd (tanFp d g bC bE) w w4) := by
            have a1 : Upd (tanFp d g bC bE) w W2 := U3.out.trans U32.out (fun k hk => by
              simp only [List.mem_cons] at hk
              rcases hk with rfl | hk
              · exact .inr BT.out
              · exact F3.out k (List.mem_append_left _ hk))
            exact (a1.trans U23 (by simp)).trans q3 (fun k hk => F3.out k (List.mem_append_left _ hk))
          have F4 : Hid (∀ k ∈ txFp d g4 bC bE bT fT3, k ∈ tanFp d g bC bE ∨ w.heap.size ≤ k) := fun k hk => F3.out k (by rw [txFp, tanFp, q1] at hk; exact hk)
          have T4 : Hid _ := TX4
          have c1 : w4.cell? ⟨bS, 1, none⟩ = some (.bool sg) := Blk.cell BS4 1
          have c0 : w4.cell? ⟨bS, 0, none⟩ = some (.int .i64 sc) := Blk.cell BS4 0
          have BS4H : Hid (Blk w4 bS 232 #[.int .i64 sc, .bool sg]) := BS4
          have FE : Hid (g4.foot = g3.foot) := q1
          clear q1 q2 q3 K115 TX4 TB4 BS4 c0' TG2H TB2H BS2H TG3 PO U23 U32
          have PN := psum_snoc ws.length t4 ⟨sc, sw, sg⟩
          rw [P3.out] at PN
          simp only at PN
          cases sg with
          | false =>
            simp at PN
            have PN2 : Hid (psum ws.length t4 = psum ws.length tr) := PN.symm
            clear PN
            go_wp2_with fail
            go_roundg t4.length
            case measure => simp
            case rel => exact ⟨g4, fT3, _, _, t4, rfl, T4.out, PN2.out, U4.out, F4.out⟩
          | true =>
            simp only [if_true] at PN
            have OP := (T3.out.ts.op t4 ⟨sc, sw, true⟩ [] (by simp)).2 rfl
            simp only at OP
            have hsub : (1 : Int) - (sw : Int) = ((1 - sw : Nat) : Int) := by omega
            have GE : unpickG G3 (altOf ws sc sw) = built ws B t4 := T4.out.ts.gq
            have CE : (ch3.set sc (-1))[sc]? = some (-1) := by
              rw [List.getElem?_set_self (by have := (List.getElem?_eq_some_iff.mp HCH.out).1; exact this)]
            have OPH : Hid (OpenW (unpickG G3 (altOf ws sc sw)) (altOf ws sc (1 - sw))) := by
              show OpenW (unpickG G3 (altOf ws sc sw)) (altOf ws sc (1 - sw))
              rw [GE]; exact OP
            have CEH : Hid ((ch3.set sc (-1))[sc]? = some (-1)) := CE
            have PNH : Hid (psum ws.length tr = psum ws.length t4 + Wk (ws.length - (t4.length + 1))) := PN
            clear OP GE CE PN
            have hcl : sc < ws.length := hsc
            have KP : Hid _ := T4.out.pick KH.out (c := sc) (v := 1 - sw) hsc (by omega)
            go_wp2_with fail
            try rw [hsub]
            refine Calls.mono KP.out ?_
            rintro e w5 ⟨rfl, g5, q1, q2, q3, q4, q5⟩
            have lt5 := q2.lt bT (by simp)
            obtain ⟨a, kc, x1, x2, x3⟩ := q2.box
            have S3 : Hid _ := x3
            have ND : Hid (bT ∉ fT3) := q2.nd
            have Q1 : Hid _ := q1
            have Q3 : Hid (∀ k ∈ bT :: fT3, k ∉ tanFp d g5 bC bE ∧ k ∉ fV) := q3
            have hz34 : wr.heap.size ≤ w4.heap.size := by have := Blk.lt BS4H.out; have := HBS.out; omega
            have bSn : bS ∉ txFp d g4 bC bE bT fT3 := fun hm => by
              have e1 := HBS.out
              have e2 := Blk.lt BS4H.out
              rcases List.mem_append.mp hm with h1 | h1
              · have := CS.out bS (List.mem_append_left _ (by rw [tanFp] at h1 ⊢; rw [FE.out] at h1; exact h1)); omega
              · have := CS.out bS (List.mem_append_right _ h1); omega
            have BS5 : Blk w5 bS 232 #[.int .i64 sc, .bool true] := Blk.keep BS4H.out q4 bSn
            have c5 : w5.cell? ⟨bS, 0, none⟩ = some (.int .i64 sc) := Blk.cell BS5 0
            have U5 : Hid (Upd (tanFp d g bC bE) w w5) := U4.out.trans q4 (fun k hk => F4.out k hk)
            have F5 : Hid (∀ k ∈ tanFp d g5 bC bE, k ∈ tanFp d g bC bE ∨ w.heap.size ≤ k) := fun k hk => by
              rcases q5 k hk with z | z
              · exact F4.out k (List.mem_append_left _ z)
              · exact .inr (by have := U4.out.size; omega)
            have F5b : Hid (∀ k ∈ bT :: fT3, w.heap.size ≤ k ∨ k ∈ tanFp d g bC bE) := fun k hk => (F4.out k (List.mem_append_right _ hk)).symm
            clear x3 q1 q2 q3 q4 q5 c0 c1 KP BS5 bSn
            go_wp2_with (first
              | (at_builtin; refine wpList_append_elem w5 _ (Upd.refl [] _) rfl (.tmp 65) (.tmp 69) 229 rfl 232 2 16 slSteps (by decide) a t4.length kc fT3 (t4.flatMap stC) rfl S3.out (by simp) [.int .i64 sc, .bool false] rfl (by simp [Value.oneCell']) _ _ rfl (by simp) (by omega) ?_; intro gB cB w6 sB uB fB; go_loud (have y1 := uB.cell x1 (by simpa using ND.out)); go_loud (have y2 := uB.free lt5 x2 (by simpa using ND.out)); have SB : Hid _ := sB; have UB : Hid _ := uB; have FB : Hid _ := fB; clear sB uB fB))
            have gc : gB ≠ bT := by
              rintro rfl
              rcases FB.out with f | f
              · exact ND.out f
              · omega
            have st := Upd.store w6 bT 0 (.slice (some ⟨gB, 0, none⟩) (t4.length + 1) cB)
            obtain ⟨W6, hW6⟩ : ∃ z : World, z = w6.setCell ⟨bT, 0, none⟩ (.slice (some ⟨gB, 0, none⟩) (t4.length + 1) cB) := ⟨_, rfl⟩
            have TBn : TrB bT [gB] (t4 ++ [⟨sc, 1 - sw, false⟩]) W6 := by
              refine ⟨⟨some ⟨gB, 0, none⟩, cB, by rw [hW6]; simpa using set_same y1, by rw [hW6]; exact set_free y2, ?_⟩, by simpa using Ne.symm gc⟩
              have := SB.out.keep st (by simpa using gc)
              rw [hW6]
              simpa [stC, nI] using this
            have U56 : Upd (bT :: fT3) w5 W6 := by
              rw [hW6]
              exact (UB.out.mono (T := bT :: fT3) (fun k hk => .inl (by simp at hk; simp [hk]))).trans st (fun k hk => .inl (by simp at hk; simp [hk]))
            have T6 : TX d bW cW bC cC bE bT fV ws B J g5 [gB] (pickG (unpickG G3 (altOf ws sc sw)) (altOf ws sc (1 - sw))) ((ch3.set sc (-1)).set sc ((1 - sw : Nat) : Int)) se2 st2 (t4 ++ [⟨sc, 1 - sw, false⟩]) W6 := by
              refine ⟨Q1.out.keep U56 (fun k hk hm => (Q3.out k hm).1 hk) (fun k hk hm => (Q3.out k hm).2 hk), T4.out.ts.push CEH.out (by omega) OPH.out (by simp), TBn, T4.out.se, T4.out.s0, ?_⟩
              intro x hx
              simp only [List.mem_cons, List.not_mem_nil, or_false] at hx
              rcases hx with rfl | rfl
              · exact Q3.out x (by simp)
              · rcases FB.out with z | z
                · exact Q3.out x (by simp [z])
                · exact ⟨fun hm => by have := Q1.out.lt x hm; omega, fun hm => by have := Q1.out.wv.lt x hm; omega⟩
            have Z6 : Hid _ := T6
            have U6 : Hid (Upd (tanFp d g bC bE) w W6) := U5.out.trans U56 (fun k hk => (F5b.out k hk).symm)
            have F6 : Hid (∀ x ∈ txFp d g5 bC bE bT [gB], x ∈ tanFp d g bC bE ∨ w.heap.size ≤ x) := fun x hx => by
              rcases List.mem_append.mp hx with hx | hx
              · exact F5.out x hx
              · simp only [List.mem_cons, List.not_mem_nil, or_false] at hx
                rcases hx with rfl | rfl
                · exact .inr BT.out
                · rcases FB.out with z | z
                  · exact (F5b.out x (by simp [z])).symm
                  · exact .inr (by have := U5.out.size; omega)
            have PF := psum_snoc ws.length t4 ⟨sc, 1 - sw, false⟩
            simp only [Bool.false_eq_true, if_false, Nat.add_zero] at PF
            have pn := PNH.out
            have wp := Wk_pos (ws.length - tr.length)
            have s2 := S2.out
            have h2 := H2.out
            rw [← hW6]
            clear hW6 TBn U56 T6 st y1 y2 gc x1 x2 c5
            go_roundg (psum ws.length t4 + Wk (ws.length - (t4.length + 1)))
            case measure => omega
            case rel =>
              refine ⟨g5, [gB], _, _, se2, st2, t4 ++ [⟨sc, 1 - sw, false⟩], ?_, Z6.out, ?_, U6.out, F6.out⟩
              · rw [PF, List.length_append, List.length_singleton]
              · omega
end Go.Proofs.YbulkctquGreatFmt

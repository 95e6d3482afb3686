/-
  settle: its last part.
-/
import Derived.Test.YbulkctquGreatFmtSeA
import Derived.Test.YbulkctquGreatFmtNspM
namespace Go.Proofs.YbulkctquGreatFmt
open Go.ChangeShapes Go.WideShapes Go.ChangeAt Go.RowKit Go.Ord
set_option linter.unusedVariables false
attribute [local go_sem ↓] Go.wp_at_zero Go.wp_at_succ

def Thru (P : Ending → World → Prop) : Ending → World → Prop := fun e w => P e w
/-- What settle hands back. -/
def SetPost (d bN bF m : Nat) (g : GG) (G : List (List Nat)) (J : List Bool) (sg : SG) (ss : List Sr) (og : OG) (os : List Ob) (v : SV) (fT fR : List Nat) (cs : List Cho) (vs : List (SV × SV)) (grp : List Nat) (ws : List (Alt × Alt)) (B : List (List Nat)) (w : World) : Ending → World → Prop := fun e w' =>
  ∃ (b : Bool) (cs' : List Cho), e = .returned (.bool b) ∧ PX d bN bF m g G J sg ss og os v fT fR cs' vs w' ∧ cs'.length = cs.length ∧ (∀ (c : Nat) (C : Cho), cs'[c]? = some C → ∃ C0, cs[c]? = some C0 ∧ C.a0 = C0.a0 ∧ C.a1 = C0.a1 ∧ (c ∉ grp → C = C0)) ∧ (b = true → ∃ (ch : List Int) (tr : List Stp) (G' : List (List Nat)), TS ws B G' ch tr ∧ tr.length = ws.length ∧ ∀ (i c : Nat) (C : Cho), grp[i]? = some c → cs'[c]? = some C → ch[i]? = some (C.way : Int)) ∧ Upd fT w w'
theorem TC.tang {bK : Nat} {g : GG} {G : List (List Nat)} {J : List Bool} {vW vC : SV} {fW fC fV : List Nat} {ws : List (Alt × Alt)} {vs : List (SV × SV)} {w : World} (h : TC bK g G J vW vC fW fC fV ws vs w) (hw : 0 < ws.length) (hG : G.length < 1000000) :
    ∃ bW bC g', fW = [bW] ∧ fC = [bC] ∧ vW.a = some ⟨bW, 0, none⟩ ∧ vC.a = some ⟨bC, 0, none⟩ ∧ g'.foot = g.foot ∧ TG bK bW vW.c bC vC.c w.heap.size (bW :: fV) g' G J ws (List.replicate ws.length (-1)) (List.replicate G.length 0) 0 ((w.setCell ⟨bK, 4, none⟩ (.slice (some ⟨w.heap.size, 0, none⟩) G.length G.length)).alloc (.cells (zeros (.int .i64 0) G.length).toArray 3)) := by
  obtain ⟨bW, e1, e2, _, e3, _⟩ := h.top.has (by rw [h.n]; exact hw)
  obtain ⟨bC, f1, f2, _, _, _⟩ := h.sc.has (by rw [h.nC]; exact hw)
  have lt := h.low
  have nd := h.nd
  rw [e2, f2] at nd lt
  simp only [tcFp, List.nodup_cons, List.mem_append, List.mem_singleton, not_or] at nd
  obtain ⟨⟨nb1, nb2, nb3⟩, nd2⟩ := nd
  simp only [List.nodup_append, List.mem_append, List.mem_singleton] at nd2
  obtain ⟨ng, ⟨_, _, nwc⟩, ngw⟩ := nd2
  have hbK := h.gr.lt
  have lW : bW < w.heap.size := lt bW (by simp [tcFp])
  have lC : bC < w.heap.size := lt bC (by simp [tcFp])
  have hst := Upd.store w bK 4 (.slice (some ⟨w.heap.size, 0, none⟩) G.length G.length)
  have sz : (w.setCell ⟨bK, 4, none⟩ (.slice (some ⟨w.heap.size, 0, none⟩) G.length G.length)).heap.size = w.heap.size := by simp [World.setCell]
  have hal := Upd.alloc [] (w.setCell ⟨bK, 4, none⟩ (.slice (some ⟨w.heap.size, 0, none⟩) G.length G.length)) (.cells (zeros (.int .i64 0) G.length).toArray 3)
  have k4 : g.kc 4 = some (.slice none 0 0) := by rw [h.kc]; rfl
  have gr1 := (h.gr.setOth k4 (.slice (some ⟨w.heap.size, 0, none⟩) G.length G.length)).keep hal (by simp) (by simp)
  have sn := Sl.made (w.setCell ⟨bK, 4, none⟩ (.slice (some ⟨w.heap.size, 0, none⟩) G.length G.length)) 3 (.int .i64 0) 1 G.length G.length (Nat.le_refl _) hG
  rw [Nat.mul_one, sz] at sn
  have ez : zeros (.int .i64 0) G.length = (List.replicate G.length (0 : Int)).map iI := by rw [zeros_one _ rfl, List.map_replicate]; rfl
  have UU : Upd [bK] w ((w.setCell ⟨bK, 4, none⟩ (.slice (some ⟨w.heap.size, 0, none⟩) G.length G.length)).alloc (.cells (zeros (.int .i64 0) G.length).toArray 3)) := hst.trans hal (by simp)
  have apV : ∀ k ∈ fV, k ∉ tcFp bK g [bW] [bC] := by
    have := h.ap
    rw [e2, f2] at this
    exact this
  have nVb : ∀ k ∈ bW :: fV, k ∉ [bK] := fun k hk hm => by
    simp only [List.mem_cons] at hk
    simp at hm
    subst hm
    rcases hk with hk | hk
    · exact nb2 hk
    · exact apV k hk (by simp [tcFp])
  refine ⟨bW, bC, { g with kc := fun i => if i = 4 then some (.slice (some ⟨w.heap.size, 0, none⟩) G.length G.length) else g.kc i }, e2, f2, e1, f1, rfl, ⟨gr1, ?_, ⟨by simp, ?_, ?_⟩, ?_, ?_, ?_, ?_⟩⟩
  · show (fun i => if i = 4 then some (Value.slice (some ⟨w.heap.size, 0, none⟩) G.length G.length) else g.kc i) = _
    rw [h.kc]
    funext j
    simp only [kcT, tanK, SV.val, e1, f1, h.n, h.nC]
    by_cases c4 : j = 4
    · subst c4; simp
    · simp [c4]
  · intro k hk
    have := UU.size
    simp only [List.mem_cons] at hk
    rcases hk with rfl | hk
    · omega
    · have := h.lt k hk; omega
  · intro c p hp
    have hl := (List.getElem?_eq_some_iff.mp hp).1
    obtain ⟨⟨s0, s1⟩, hq⟩ := has_at vs (k := c) (by rw [h.len]; exact hl)
    obtain ⟨r0, r1⟩ := h.rows c p (s0, s1) hp hq
    have hz : (ws.zip vs)[c]? = some (p, (s0, s1)) := by rw [List.getElem?_zip_eq_some]; exact ⟨hp, hq⟩
    have q := fun j (hj : j < 4) => flat3 awC 4 (fun _ => rfl) (ws.zip vs) c j (p, (s0, s1)) hz hj
    have cell : ∀ j, j < 4 → ∀ x, (awC (p, (s0, s1)))[j]? = some x → ((w.setCell ⟨bK, 4, none⟩ (.slice (some ⟨w.heap.size, 0, none⟩) G.length G.length)).alloc (.cells (zeros (.int .i64 0) G.length).toArray 3)).cell? ⟨bW, c * 4 + j, none⟩ = some x := by
      intro j hj x hx
      refine UU.cell ?_ (nVb bW (by simp))
      rw [e3 (c * 4 + j) (by rw [h.n]; omega), q j hj]
      exact hx
    exact ⟨s0, s1, cell 0 (by omega) _ rfl, cell 1 (by omega) _ rfl, cell 2 (by omega) _ rfl, cell 3 (by omega) _ rfl, (r0.keep UU (fun k hk => nVb k (by simp [hk]))).mono (fun k hk => by simp [hk]), (r1.keep UU (fun k hk => nVb k (by simp [hk]))).mono (fun k hk => by simp [hk])⟩
  · have := h.sc.keep UU (fun k hk hm => by rw [f2] at hk; simp at hk hm; subst hk; exact nb3 hm.symm)
    rw [f1, f2, h.nC] at this
    exact this
  · rw [← ez]; exact sn
  · simp only [tanFp, List.nodup_cons, List.nodup_append, List.mem_append, List.mem_cons, List.not_mem_nil, or_false, not_or]
    refine ⟨⟨nb1, nb3, by omega⟩, ng, ⟨by omega, by simp⟩, ?_⟩
    intro x hx y hy e
    subst e
    rcases hy with h1 | h1
    · exact ngw x hx x (.inr h1) rfl
    · have := h.gr.footLt x hx; omega
  · intro k hk hm
    simp only [tanFp, List.mem_cons, List.mem_append, List.not_mem_nil, or_false] at hm
    simp only [List.mem_cons] at hk
    have kl : k < w.heap.size := by
      rcases hk with rfl | hk
      · exact lW
      · exact h.lt k hk
    rcases hm with hm | hm | hm | hm
    · exact nVb k (by simp only [List.mem_cons]; exact hk) (by simp [hm])
    · rcases hk with rfl | hk
      · exact ngw k hm k (.inl rfl) rfl
      · exact apV k hk (by simp [tcFp]; exact .inr (.inl hm))
    · rcases hk with rfl | hk
      · exact nwc k rfl k hm rfl
      · exact apV k hk (by simp [tcFp, hm])
    · omega
noncomputable def se35 : Code := ((Ybaz.f67.body.bind (fromReg 35)).getD .skip)
set_option maxHeartbeats 16000000 in
set_option maxRecDepth 100000 in
theorem set35 {u4 u5 u6 u7 u11 u12 u13 u14 u15 u16 u17 u18 u19 u20 u21 u22 u23 u24 u25 u26 u27 u28 u29 u30 u31 u32 u33 u34 u35 u36 u37 u38 u39 u40 u41 u42 u43 u44 u45 u46 u47 u48 u49 u50 u51 u52 u53 u54 u55 u56 u57 u58 u59 u60 u61 u62 u63 u64 u65 u66 u67 u68 u69 u70 u71 u72 u73 u74 u75 u76 u77 u78 u79 u80 u81 u82 u83 u84 u85 u86 u87 u88 u89 u90 u91 u92 u93 u94 u95 u96 u97 u98 u99 u100 u101 u102 u103 u104 u105 u106 u107 u108 u109 u110 u111 u112 u113 u114 u115 u116 u117 u118 u119 u120 u121 u122 u123 u124 u125 u126 u127 u128 u129 u130 u131 u132 u133 u134 u135 u136 u137 u138 u139 u140 u141 u142 u143 u144 u145 u146 u147 u148 u149 u150 u151 u152 u153 u154 u155 u156 u157 u158 u159 u160 u161 u162 u163 u164 u165 u166 u167 u168 u169 u170 u171 u172 u173 u174 u175 u176 u177 u178 u179 u180 u181 u182 u183 u184 u185 u186 u187 : Value} (w : World) (d bN bF m bM bK : Nat) (g : GG) (G : List (List Nat)) (J : List Bool) (sg : SG) (ss : List Sr) (og : OG) (os : List Ob) (v : SV) (fT fR : List Nat) (cs : List Cho) (vs : List (SV × SV)) (H : PX d bN bF m g G J sg ss og os v fT fR cs vs w)
    (grp : List Nat) (ga ma ca : Option Addr) (gc mc cn cc : Nat) (gv : ∀ (j x : Nat), grp[j]? = some x → ∃ b, ga = some ⟨b, 0, none⟩ ∧ b < w.heap.size ∧ b ∉ fT ∧ w.cell? ⟨b, j, none⟩ = some (.int .i64 x)) (gn : grp.Nodup) (gl : ∀ c ∈ grp, c < cs.length) (g0 : 0 < grp.length) (hway : ∀ C ∈ cs, C.way ≤ 1) (hcl : cs.length ≤ 1000)
    (ws : List (Alt × Alt)) (hwl : ws.length = grp.length) (B : List (List Nat)) (JB : List Bool) (gK : GG) (vW vC : SV) (fW fC fV : List Nat) (vsW : List (SV × SV)) (KK : TK ws B)
    (W0 : World) (U0 : Upd [] w W0) (T : TC bK gK B JB vW vC fW fC fV ws vsW W0) (hlo : ∀ k ∈ tcFp bK gK fW fC, w.heap.size ≤ k) (hlv : ∀ k ∈ fV, w.heap.size ≤ k) (Post : Ending → World → Prop) (hPo : ∀ e w', SetPost d bN bF m g G J sg ss og os v fT fR cs vs grp ws B w e w' → Post e w') :
    se35.wp Ybaz.prog (bodyPost Ybaz.prog Ybaz.f67 (Thru Post)) ⟨[.pointer (some ⟨d, 0, none⟩), .slice ga grp.length gc, .slice ma B.length mc, .slice ca cn cc, u4, u5, u6, u7, .bool false, .map (some bM), .pointer (some ⟨bK, 0, none⟩), u11, u12, u13, u14, u15, u16, u17, u18, u19, u20, u21, u22, u23, u24, u25, u26, u27, u28, u29, u30, u31, u32, u33, u34, u35, u36, u37, u38, u39, u40, u41, u42, u43, u44, u45, u46, u47, u48, u49, u50, u51, u52, u53, u54, u55, u56, u57, u58, u59, u60, u61, u62, u63, u64, u65, u66, u67, u68, u69, u70, u71, u72, u73, u74, u75, u76, u77, u78, u79, u80, u81, u82, u83, u84, u85, u86, u87, u88, u89, u90, u91, u92, u93, u94, u95, u96, u97, u98, u99, u100, u101, u102, u103, u104, u105, u106, u107, u108, u109, u110, u111, u112, u113, u114, u115, u116, u117, u118, u119, u120, u121, u122, u123, u124, u125, u126, u127, u128, u129, u130, u131, u132, u133, u134, u135, u136, u137, u138, u139, u140, u141, u142, u143, u144, u145, u146, u147, u148, u149, u150, u151, u152, u153, u154, u155, u156, u157, u158, u159, u160, u161, u162, u163, u164, u165, u166, u167, u168, u169, u170, u171, u172, u173, u174, u175, u176, u177, u178, u179, u180, u181, u182, u183, u184, u185, u186, u187].toArray, []⟩ W0 := by
  have HPO : Hid (∀ e w', SetPost d bN bF m g G J sg ss og os v fT fR cs vs grp ws B w e w' → Post e w') := hPo
  have HX : Hid _ := H
  have GV : Hid (∀ (j x : Nat), grp[j]? = some x → ∃ b, ga = some ⟨b, 0, none⟩ ∧ b < w.heap.size ∧ b ∉ fT ∧ w.cell? ⟨b, j, none⟩ = some (.int .i64 x)) := gv
  have GN : Hid (grp.Nodup) := gn
  have GL : Hid (∀ c ∈ grp, c < cs.length) := gl
  have HWY : Hid (∀ C ∈ cs, C.way ≤ 1) := hway
  have KH : Hid _ := KK
  have U0H : Hid (Upd [] w W0) := U0
  have LO : Hid (∀ k ∈ tcFp bK gK fW fC, w.heap.size ≤ k) := hlo
  have LV : Hid (∀ k ∈ fV, w.heap.size ≤ k) := hlv
  have hw60 := KK.wl
  have hg10 := KK.gl
  obtain ⟨bW, bC, gT, t1, t2, t3, t4, t5, t6⟩ := T.tang (by omega) (by omega)
  have c4 := (T.cell (j := 4) rfl)
  have c41 := c4.1
  have c42 := c4.2
  have hm1 := mkInts.made B.length B.length (Nat.le_refl _) (by omega) (by decide)
  have hm2 := mkInts.made grp.length grp.length (Nat.le_refl _) (by omega) (by decide)
  have T6 : Hid _ := t6
  have TF : Hid (gT.foot = gK.foot) := t5
  have FW : Hid (fW = [bW]) := t1
  have FC : Hid (fC = [bC]) := t2
  have hbK := T.gr.lt
  clear H gv gn gl hway KK U0 hlo hlv hPo t1 t2 t3 t4 t5 t6 c4
  have ltA := T6.out.wv.lt
  conv => arg 2; whnf
  go_upto_region 36 with fail
  obtain ⟨bE, hbE⟩ : ∃ b, b = W0.heap.size := ⟨_, rfl⟩
  obtain ⟨W1, hW1⟩ : ∃ z : World, z = (W0.setCell ⟨bK, 4, none⟩ (.slice (some ⟨W0.heap.size, 0, none⟩) B.length B.length)).alloc (.cells (zeros (.int .i64 0) B.length).toArray 3) := ⟨_, rfl⟩
  have U1 : Upd [bK] W0 W1 := by rw [hW1]; exact (Upd.store _ _ _ _).trans (Upd.alloc [] _ _) (by simp)
  rw [← hW1] at T6 ltA ⊢
  rw [← hbE] at T6
  have lobK := LO.out bK (by simp [tcFp])
  have UW1 : Hid (Upd [] w W1) := U0H.out.trans U1 (fun k hk => .inr (by simp at hk; omega))
  have z1 : w.heap.size ≤ bE := by rw [hbE]; exact U0H.out.size
  have lt1 := T6.out.lt
  clear hW1 hbE U1 c41 c42 hm1
  go_upto_region 37 with fail
  clear hm2
  obtain ⟨bP, hbP⟩ : ∃ b, b = W1.heap.size := ⟨_, rfl⟩
  obtain ⟨W2, hW2⟩ : ∃ z : World, z = W1.alloc (.cells (zeros (.int .i64 0) grp.length).toArray 3) := ⟨_, rfl⟩
  have U2 : Upd [] W1 W2 := by rw [hW2]; exact Upd.alloc _ _ _
  have MP : MarksAt bP grp.length (List.replicate grp.length 0) W2 := by rw [hW2, hbP]; exact MarksAt.made W1 grp.length (by omega)
  rw [← hW2, ← hbP]
  have T2 : Hid _ := T6.out.grow U2
  have UW2 : Hid (Upd [] w W2) := UW1.out.trans U2 (by simp)
  have z2 : w.heap.size ≤ bP := by rw [hbP]; exact UW1.out.size
  have SEP : Hid (bP ≠ bW ∧ ∀ k ∈ fV, k ≠ bP) := ⟨fun e => by have := ltA bW (by simp); omega, fun k hk e => by have := ltA k (by simp [hk]); omega⟩
  have hbPn : Hid (bP ∉ tanFp bK gT bC bE) := fun hm => by have := lt1 bP hm; omega
  have MPH : Hid (MarksAt bP grp.length (List.replicate grp.length 0) W2) := MP
  clear hW2 hbP U2 MP T6 lt1
  go_wp2_with fail
  go_loopw [148] (fun t148 wr => ∃ (i : Nat) (pf : List Nat), i ≤ grp.length ∧ t148 = .int .i64 i ∧ MarksAt bP grp.length pf wr ∧ pf.length = grp.length ∧ (∀ x ∈ pf, x ≤ 1) ∧ Upd [bP] W2 wr) (fun a _ => grp.length - (intOf a).toNat)
  case atStart => exact ⟨0, List.replicate grp.length 0, by omega, rfl, MPH.out, by simp, fun x hx => by simp at hx; omega, Upd.refl _ _⟩
  case round =>
    obtain ⟨i, pf, hi, rfl, h1, h2, h3, h4⟩ := hrel
    have MA : Hid (MarksAt bP grp.length pf wr) := h1
    have PF1 : Hid (∀ x ∈ pf, x ≤ 1) := h3
    have UW : Hid (Upd [bP] W2 wr) := h4
    have UWW : Hid (Upd [] w wr) := UW2.out.trans h4 (fun k hk => .inr (by simp at hk; omega))
    clear h1 h3 h4
    by_cases hlt : i < grp.length
    · as_aux_lemma =>
      obtain ⟨c, hc⟩ := has_at grp hlt
      obtain ⟨b, m1, m2, m3, m4⟩ := GV.out i c hc
      subst m1
      have m5 := UWW.out.cell m4 (by simp)
      have hcl2 := GL.out c (List.mem_of_getElem? hc)
      obtain ⟨C, hC⟩ := has_at cs hcl2
      have PW := HX.out.grow UWW.out
      obtain ⟨bX, s0, s1, e1, e2, e3, e4, e5, e6, e7, e8, e9, _⟩ := PW.ch.at hC
      have c6 := (PW.cell (j := 6) rfl).1
      rw [e1, PW.ch.n] at c6
      obtain ⟨v0, hv0⟩ := has_at pf (k := i) (by omega)
      obtain ⟨cm, zm⟩ := MarksAt.get MA.out hv0
      have MA2 : Hid _ := MarksAt.set MA.out i C.way
      have hCw := HWY.out C (List.mem_of_getElem? hC)
      obtain ⟨cy, hcy⟩ : ∃ x, x = C.way := ⟨_, rfl⟩
      rw [← hcy] at e8 MA2 hCw
      clear hc m4 hC PW e1 e2 e3 e4 e5 e6 e7 e9 hv0 hcy
      go_wp2_with fail
      refine ⟨⟨i + 1, pf.set i cy, by omega, by go_num, MA2.out, by simp [h2], fun x hx => ?_, UW.out.trans (Upd.store _ _ _ _) (by simp)⟩, by simp [intOf] <;> omega⟩
      rcases List.mem_or_eq_of_mem_set hx with z | z
      · exact PF1.out x z
      · omega
    · as_aux_lemma =>
      have TR : Hid _ := T2.out.keep UW.out (fun k hk hm => by simp at hm; subst hm; exact hbPn.out hk) (fun k hk hm => by
        simp at hm; subst hm
        have := T2.out.wv.lt k hk
        simp only [List.mem_cons] at hk
        rcases hk with rfl | hk
        · exact SEP.out.1 rfl
        · exact SEP.out.2 _ hk rfl)
      have K96 : Hid _ := search96 TR.out KH.out (fun y hy => by simp at hy; exact hy.2) bP grp.length pf (by omega) PF1.out (fun j x hx => (MarksAt.get MA.out hx).1) hbPn.out
      rw [hwl] at K96
      go_wp2_with fail
      refine Calls.mono K96.out ?_
      rintro e w3 ⟨b, g3, G3, ch, se, st, tr, rfl, p1, p2, p3, p4, p5⟩
      have T3 : Hid _ := p1
      have TS3 : Hid _ := p2
      have LO3 : Hid (∀ k ∈ tanFp bK gT bC bE, w.heap.size ≤ k) := fun k hk => by
        simp only [tanFp, List.mem_cons, List.mem_append, List.not_mem_nil, or_false] at hk
        rcases hk with hk | hk | hk | hk
        · omega
        · exact LO.out k (by rw [TF.out] at hk; simp [tcFp, hk])
        · exact LO.out k (by rw [hk]; simp [tcFp, FC.out])
        · omega
      have UW3 : Hid (Upd [] w w3) := UWW.out.trans p4 (fun k hk => .inr (LO3.out k hk))
      have BR : Hid (b = true → tr.length = ws.length) := p3
      clear K96 p1 p2 p3 p4 p5
      cases b with
      | false =>
        as_aux_lemma =>
        go_wp2_with fail
        go_ret
        refine HPO.out _ _ ?_
        exact ⟨false, cs, rfl, HX.out.grow UW3.out, rfl, fun c C hC => ⟨C, hC, rfl, rfl, fun _ => rfl⟩, (fun hf => by cases hf), UW3.out.mono (by simp)⟩
      | true =>
        as_aux_lemma =>
        have trl := BR.out rfl
        have TRL : Hid (tr.length = ws.length) := trl
        have lch := T3.out.lens.1
        have LCH : Hid (ch.length = ws.length) := lch
        have e3 := (T3.out.cell (j := 3) rfl).1
        have NF : Hid (∀ b, w.heap.size ≤ b → b ∉ fT) := fun b hb hm => by have := HX.out.lt b (by simp [hm]); omega
        have C3 : Hid (w3.cell? ⟨bK, 3, none⟩ = some (.slice (some ⟨bC, 0, none⟩) ws.length vC.c)) := e3
        have LC3 : w.heap.size ≤ bC := LO3.out bC (by simp [tanFp])
        clear e3 trl lch
        go_wp2_with fail
        go_loopw [170] (fun t170 wx => ∃ (i : Nat) (cs1 : List Cho), i ≤ grp.length ∧ t170 = .int .i64 i ∧ PX d bN bF m g G J sg ss og os v fT fR cs1 vs wx ∧ cs1.length = cs.length ∧ (∀ (c : Nat) (C : Cho), cs1[c]? = some C → ∃ C0, cs[c]? = some C0 ∧ C.a0 = C0.a0 ∧ C.a1 = C0.a1 ∧ (c ∉ grp → C = C0)) ∧ (∀ (j c : Nat) (C : Cho), j < i → grp[j]? = some c → cs1[c]? = some C → ch[j]? = some (C.way : Int)) ∧ Upd fT w3 wx) (fun a _ => grp.length - (intOf a).toNat)
        case atStart => exact ⟨0, cs, by omega, rfl, HX.out.grow UW3.out, rfl, fun c C hC => ⟨C, hC, rfl, rfl, fun _ => rfl⟩, fun j c C hj => by omega, Upd.refl _ _⟩
        case round =>
          obtain ⟨i2, cs1, hi2, rfl, i1, i3, i4, i5, i6⟩ := hrel
          have PXX : Hid _ := i1
          have SAM : Hid (∀ (c : Nat) (C : Cho), cs1[c]? = some C → ∃ C0, cs[c]? = some C0 ∧ C.a0 = C0.a0 ∧ C.a1 = C0.a1 ∧ (c ∉ grp → C = C0)) := i4
          have CHJ : Hid (∀ (j c : Nat) (C : Cho), j < i2 → grp[j]? = some c → cs1[c]? = some C → ch[j]? = some (C.way : Int)) := i5
          have UX : Hid (Upd fT w3 wr) := i6
          by_cases hlt2 : i2 < grp.length
          · as_aux_lemma =>
            obtain ⟨c, hc⟩ := has_at grp hlt2
            obtain ⟨b, m1, m2, m3, m4⟩ := GV.out i2 c hc
            subst m1
            have m5 := i6.cell (UW3.out.cell m4 (by simp)) m3
            have hcl2 : c < cs1.length := by rw [i3]; exact GL.out c (List.mem_of_getElem? hc)
            obtain ⟨C, hC⟩ := has_at cs1 hcl2
            obtain ⟨bX, s0, s1, e1, e2, e3, e4, e5, e6, e7, e8, e9, _⟩ := i1.ch.at hC
            have c6 := (i1.cell (j := 6) rfl).1
            rw [e1, i1.ch.n] at c6
            obtain ⟨s, hs1, hs2, hs3⟩ := TS3.out.all TRL.out (c := i2) (by omega)
            have cc3 := i6.cell C3.out (NF.out bK lobK)
            have cch := i6.cell (T3.out.gch hs3).1 (NF.out bC LC3)
            have PW2 := i1.way hC e1 s.w
            have PW2H : Hid _ := PW2
            have HC : Hid (cs1[c]? = some C) := hC
            have HGC : Hid (grp[i2]? = some c) := hc
            have HS3 : Hid (ch[i2]? = some (s.w : Int)) := hs3
            have i2w : i2 < ws.length := by omega
            obtain ⟨sw, hsw⟩ : ∃ x, x = s.w := ⟨_, rfl⟩
            have HSW : Hid (sw = s.w) := hsw
            rw [← hsw] at cch
            clear i1 i4 i5 i6 hC e1 e2 e3 e4 e5 e6 e7 m4 hs1 hs2 hs3 PW2 hc hsw
            go_upto_region 47 with fail
            go_big_region
            obtain ⟨W5, hW5⟩ : ∃ z : World, z = (wr.setCell ⟨bX, c * 5 + 4, none⟩ (.int .i64 (sw : Nat))).drew := ⟨_, rfl⟩
            rw [← hW5]
            have q1 := PW2H.out.1.grow (Upd.drew [] _)
            have q2 := PW2H.out.2.trans (Upd.drew [] _) (by simp)
            rw [← HSW.out, ← hW5] at q1 q2
            have Q1 : Hid _ := q1
            have Q2 : Hid (Upd fT wr W5) := q2
            clear q1 q2 hW5 m5 c6 cc3 cch e8 e9
            go_wp2_with fail
            refine ⟨⟨i2 + 1, cs1.set c { C with way := sw }, by omega, by go_num, Q1.out, by simp [i3], fun c' C' hC' => ?_, fun j c' C' hj hg hC' => ?_, UX.out.trans Q2.out (fun k hk => .inl hk)⟩, by simp [intOf] <;> omega⟩
            · by_cases e : c = c'
              · subst e
                rw [List.getElem?_set_self hcl2] at hC'
                injection hC' with hC'
                subst hC'
                obtain ⟨C0, a1, a2, a3, a4⟩ := SAM.out c C HC.out
                exact ⟨C0, a1, a2, a3, fun hn => absurd (List.mem_of_getElem? HGC.out) hn⟩
              · rw [List.getElem?_set_ne e] at hC'
                exact SAM.out c' C' hC'
            · by_cases e : c = c'
              · subst e
                have : j = i2 := nodup_ix GN.out hg HGC.out
                subst this
                rw [List.getElem?_set_self hcl2] at hC'
                injection hC' with hC'
                subst hC'
                rw [HS3.out, HSW.out]
              · rw [List.getElem?_set_ne e] at hC'
                refine CHJ.out j c' C' ?_ hg hC'
                rcases Nat.lt_or_ge j i2 with z | z
                · exact z
                · have : j = i2 := by omega
                  subst this
                  rw [HGC.out] at hg; injection hg with hg; exact absurd hg e
          · as_aux_lemma =>
            have hi3 : i2 = grp.length := by omega
            clear i1 i4 i5 i6
            go_wp2_with fail
            go_ret
            refine HPO.out _ _ ?_
            refine ⟨true, cs1, rfl, PXX.out, i3, SAM.out, fun _ => ⟨ch, tr, G3, TS3.out, TRL.out, fun i c C hg hC => ?_⟩, (UW3.out.mono (by simp)).trans UX.out (fun k hk => .inl hk)⟩
            exact CHJ.out i c C (by have := (List.getElem?_eq_some_iff.mp hg).1; omega) hg hC
end Go.Proofs.YbulkctquGreatFmt

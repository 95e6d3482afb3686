/-
  choose, walked: the members of the groups, and each group settled.
-/
import Derived.Test.YbulkctquGreatFmtChoP
namespace Go.Proofs.YbulkctquGreatFmt
open Go.ChangeShapes Go.WideShapes Go.ChangeAt Go.RowKit Go.Ord
set_option linter.unusedVariables false
attribute [local go_sem ↓] Go.wp_at_zero Go.wp_at_succ
attribute [-go_sem] Go.Builtin.append_

theorem q83nn (w : World) (n c : Nat) : (binOp .neq 83 (.slice none n c) (.slice none 0 0)).run Ybaz.prog w = .ok (.bool false) w := run_neq_slice_nil_any w 83 3 none n c 0 0 Ybaz.underlying83
theorem q83ns (w : World) (a : Addr) (n c : Nat) : (binOp .neq 83 (.slice (some a) n c) (.slice none 0 0)).run Ybaz.prog w = .ok (.bool true) w := run_neq_slice_nil_any w 83 3 (some a) n c 0 0 Ybaz.underlying83
/-- The look-up of a label. -/
theorem MRow.look {b : Nat} {FP : List Nat} {S : Nat → Option SV} {f X : Nat → List Nat} {w : World} (h : MRow b FP S f X w) {L : Nat} {s : SV} (hs : ((S L).map SV.val).getD (.slice none 0 0) = .slice s.a s.n s.c) : (Instr.lookup 183 (.map (some b)) (.int .i64 L) false).run Ybaz.prog w = .ok (.slice s.a s.n s.c) w := by
  have := h.m.look (P := Ybaz.prog) (intKeys Ybaz.underlying3) Ybaz.underlying183 zero83 L false
  rw [← hs]
  exact this
theorem MRow.fin {b : Nat} {FP : List Nat} {S : Nat → Option SV} {f X X' : Nat → List Nat} {w : World} (h : MRow b FP S f X w) (e : X' = X) : MRow b FP S f X' w := by subst e; exact h
theorem fin_row (M : Nat) : ∀ K : List Nat, (∀ x ∈ K, x < M + 1) → ∃ d : Array (Fin (M + 1)), d.toList.map (fun t => t.val) = K
  | [], _ => ⟨#[], rfl⟩
  | x :: K, h => by
    obtain ⟨d, hd⟩ := fin_row M K (fun y hy => h y (by simp [hy]))
    exact ⟨(⟨x, h x (by simp)⟩ :: d.toList).toArray, by simp [hd]⟩
noncomputable def ch26 : Code := ((Ybaz.f45.body.bind (fromReg 26)).getD .skip)
set_option maxHeartbeats 16000000 in
set_option maxRecDepth 100000 in
theorem cho26 {u3 u4 u5 u6 u7 u8 u9 u11 u14 u15 u16 u17 u18 u19 u20 u21 u22 u23 u24 u25 u26 u27 u28 u29 u30 u31 u32 u33 u34 u35 u36 u37 u38 u39 u40 u41 u42 u43 u44 u45 u46 u47 u48 u49 u50 u51 u52 u53 u54 u55 u56 u57 u58 u59 u60 u61 u62 u63 u64 u65 u66 u67 u68 u69 u70 u71 u72 u73 u74 u75 u76 u77 u78 u79 u80 u81 u82 u83 u84 u85 u86 u87 u88 u89 u90 u91 u92 u93 u94 u95 u96 u97 u98 u99 u100 u101 u102 u103 u104 u105 u106 u107 u108 u109 u110 u111 u112 u113 u114 u115 u116 u117 u118 u119 u120 u121 u122 u123 u124 u125 u126 u127 u128 u129 u130 u131 u132 u133 u134 u135 u136 u137 u138 u139 u140 u141 u142 u143 u144 u145 u146 u147 u148 u149 u150 u151 u152 u153 u154 u155 u156 u157 : Value} (w W : World) (d bN bF m b0 bc bG cL : Nat) (aL : Option Addr) (g : GG) (G : List (List Nat)) (J : List Bool) (sg : SG) (ss : List Sr) (og : OG) (os : List Ob) (v : SV) (fT fR : List Nat) (cs : List Cho) (vs : List (SV × SV)) (H : PX d bN bF m g G J sg ss og os v fT fR cs vs w) (U0 : Upd [] w W)
    (hb0 : W.cell? ⟨b0, 0, none⟩ = some (.pointer (some ⟨d, 0, none⟩))) (cmp : List Int) (siz : List Nat) (SC : Sl W 3 1 (some ⟨bc, 0, none⟩) G.length G.length [bc] (cmp.map iI)) (HC : Comp (allG G cs) cmp siz) (FPG : List Nat) (SG' : Nat → Option SV) (fG : Nat → List Nat) (MG : MRow bG FPG SG' fG (grpN cmp cs cs.length) W) (labs fL : List Nat) (SL : Sl W 3 1 aL labs.length cL fL (labs.map nI)) (hlab : ∀ L, L ∈ labs ↔ grpN cmp cs cs.length L ≠ []) (hfr : ∀ k ∈ b0 :: bc :: bG :: (FPG ++ fL), w.heap.size ≤ k)
    (hll : labs.length ≤ 10000) (hcl : cs.length ≤ 60) (hway : ∀ C ∈ cs, C.way ≤ 1) (hfl : ∀ C ∈ cs, C.a0.f.length ≤ 100 ∧ C.a1.f.length ≤ 100 ∧ C.a0.f.Nodup ∧ C.a1.f.Nodup) (hci : ∀ C ∈ cs, ChIn cmp C) (him : ∀ C ∈ cs, C.a0.i < m) (hmG : m ≤ G.length) (hm12 : m ≤ 12) (hA : Acy G) (hG : ∀ u, ∀ x ∈ outs G u, x < G.length) (hGl : G.length < 10000) (hwt : wt G < 800000) (hF : ∀ t < m, ∃ p : Nat, w.cell? ⟨bF, t, none⟩ = some (.int .i64 p)) (hFT : bF ∉ fT) :
    ch26.wp Ybaz.prog (bodyPost Ybaz.prog Ybaz.f45 (Thru (ChoPost d bN bF m g G J sg ss og os v fT fR cs vs w))) ⟨[.pointer (some ⟨d, 0, none⟩), .pointer (some ⟨b0, 0, none⟩), .slice none 0 0, u3, u4, u5, u6, u7, u8, u9, .slice (some ⟨bc, 0, none⟩) G.length G.length, u11, .map (some bG), .slice aL labs.length cL, u14, u15, u16, u17, u18, u19, u20, u21, u22, u23, u24, u25, u26, u27, u28, u29, u30, u31, u32, u33, u34, u35, u36, u37, u38, u39, u40, u41, u42, u43, u44, u45, u46, u47, u48, u49, u50, u51, u52, u53, u54, u55, u56, u57, u58, u59, u60, u61, u62, u63, u64, u65, u66, u67, u68, u69, u70, u71, u72, u73, u74, u75, u76, u77, u78, u79, u80, u81, u82, u83, u84, u85, u86, u87, u88, u89, u90, u91, u92, u93, u94, u95, u96, u97, u98, u99, u100, u101, u102, u103, u104, u105, u106, u107, u108, u109, u110, u111, u112, u113, u114, u115, u116, u117, u118, u119, u120, u121, u122, u123, u124, u125, u126, u127, u128, u129, u130, u131, u132, u133, u134, u135, u136, u137, u138, u139, u140, u141, u142, u143, u144, u145, u146, u147, u148, u149, u150, u151, u152, u153, u154, u155, u156, u157].toArray, []⟩ W := by
  have cl : cmp.length = G.length := by have := HC.len; rw [allG_len] at this; exact this
  have HX : Hid _ := H
  have U0H : Hid (Upd [] w W) := U0
  have SCH : Hid (Sl W 3 1 (some ⟨bc, 0, none⟩) G.length G.length [bc] (cmp.map iI)) := SC
  have HCH : Hid _ := HC
  have MGH : Hid _ := MG
  have SLH : Hid (Sl W 3 1 aL labs.length cL fL (labs.map nI)) := SL
  have HLB : Hid (∀ L, L ∈ labs ↔ grpN cmp cs cs.length L ≠ []) := hlab
  have HFR : Hid (∀ k ∈ b0 :: bc :: bG :: (FPG ++ fL), w.heap.size ≤ k) := hfr
  have HWY : Hid (∀ C ∈ cs, C.way ≤ 1) := hway
  have HFL : Hid (∀ C ∈ cs, C.a0.f.length ≤ 100 ∧ C.a1.f.length ≤ 100 ∧ C.a0.f.Nodup ∧ C.a1.f.Nodup) := hfl
  have HCI : Hid (∀ C ∈ cs, ChIn cmp C) := hci
  have HIM : Hid (∀ C ∈ cs, C.a0.i < m) := him
  have HA : Hid (Acy G) := hA
  have HG : Hid (∀ u, ∀ x ∈ outs G u, x < G.length) := hG
  have HF : Hid (∀ t < m, ∃ p : Nat, w.cell? ⟨bF, t, none⟩ = some (.int .i64 p)) := hF
  have HFT : Hid (bF ∉ fT) := hFT
  have CLH : Hid (cmp.length = G.length) := cl
  have B0H : Hid (W.cell? ⟨b0, 0, none⟩ = some (.pointer (some ⟨d, 0, none⟩))) := hb0
  obtain ⟨Wc, hWc⟩ : ∃ z : World, z = W := ⟨_, rfl⟩
  subst hWc
  clear H U0 SC HC MG SL hlab hfr hway hfl hci him hA hG hF hFT cl hb0
  conv => arg 2; whnf
  have hmm := @run_makeMap Ybaz.prog
  go_upto_region 27 with fail
  obtain ⟨bM, hbM⟩ : ∃ b, b = Wc.heap.size := ⟨_, rfl⟩
  obtain ⟨W1, hW1⟩ : ∃ z : World, z = Wc.alloc (.map #[] 0) := ⟨_, rfl⟩
  have M1 : MapAt W1 (ik .i64) bM (fun _ => none) := by rw [hW1, hbM]; exact MapAt.new _ _
  have U1 : Upd [] Wc W1 := by rw [hW1]; exact Upd.alloc _ _ _
  rw [← hW1, ← hbM]
  have HBM : Hid (bM = Wc.heap.size) := hbM
  have R1 : Hid _ := MRow.start M1
  have U1H : Hid (Upd [] Wc W1) := U1
  clear hW1 hbM M1 U1 hmm
  go_wp2_with fail
  go_loopw [99] (fun t99 wr => ∃ (i : Nat) (FPm : List Nat) (Sm : Nat → Option SV) (fm : Nat → List Nat), i ≤ G.length ∧ t99 = .int .i64 i ∧ MRow bM FPm Sm fm (memN cmp cs i) wr ∧ Upd [] Wc wr ∧ (∀ k ∈ FPm, Wc.heap.size ≤ k)) (fun a _ => G.length - (intOf a).toNat)
  case atStart => exact ⟨0, [], _, _, by omega, rfl, R1.out.fin (memN_zero cmp cs), U1H.out, by simp⟩
  case round =>
    obtain ⟨i, FPm, Sm, fm, hi, rfl, h1, h2, h3⟩ := hrel
    have MM : Hid _ := h1
    have UC : Hid (Upd [] Wc wr) := h2
    have FM : Hid (∀ k ∈ FPm, Wc.heap.size ≤ k) := h3
    clear h1 h2 h3
    by_cases hlt : i < G.length
    · as_aux_lemma =>
      have hz := HCH.out.lab (x := i) (by rw [allG_len]; exact hlt)
      obtain ⟨L, hL⟩ : ∃ L, L = labOf cmp i := ⟨_, rfl⟩
      rw [← hL] at hz
      have HL : Hid (L = labOf cmp i) := hL
      obtain ⟨gc, e1, e2, e3⟩ := (SCH.out.keep UC.out (by simp)).get (j := i) (v := .int .i64 (L : Int)) (by rw [List.getElem?_map, hz]; rfl)
      injection e1 with e1; injection e1 with e1
      subst e1
      obtain ⟨s, fL', a1, a2, a3, a4, a5, a6, a7⟩ := (MGH.out.grow UC.out).row L
      have hlk := (MGH.out.grow UC.out).look a1
      by_cases hg : grpN cmp cs cs.length L = []
      · as_aux_lemma =>
        have hsa := a6 hg
        have hq := q83nn
        have MS : Hid _ := memN_skip (cmp := cmp) (cs := cs) (n := i) (by rw [← HL.out]; exact hg)
        rw [hsa] at hlk
        clear hz hL e2 a1 a2 a3 a4 a5 a6 a7 hg hsa
        go_upto_region 30 with fail
        go_wp2_with fail
        exact ⟨⟨i + 1, FPm, Sm, fm, by omega, by go_num, MM.out.fin MS.out, UC.out, FM.out⟩, by simp [intOf] <;> omega⟩
      · as_aux_lemma =>
        obtain ⟨gg, hsa⟩ := a7 hg
        have hq := q83ns
        have MS : Hid _ := memN_succ (cmp := cmp) (cs := cs) (n := i) (by rw [← HL.out]; exact hg)
        rw [hsa] at hlk
        obtain ⟨s', fL2, c1, c2, c3, c4, c5, c6, c7⟩ := MM.out.row L
        have hlk3 := MM.out.look c1
        have hlk4 : (Instr.lookup 183 (.map (some bM)) (.int .i64 L) false).run Ybaz.prog wr.drew = .ok (.slice s'.a s'.n s'.c) wr.drew := (MM.out.grow (Upd.drew [] wr)).look c1
        have hml : (memN cmp cs i L).length ≤ 100000 := by
          have h9 := nodup_len i (memN cmp cs i L) (memN_nodup _ _ _ _) (fun x hx => by
            unfold memN at hx
            split at hx
            · simp at hx
            · simp at hx; exact hx.1)
          omega
        obtain ⟨gX, cX, w1, hrun', r1, r2, r3⟩ := run_appended (P := Ybaz.prog) wr (wr.alloc (.cells #[.int .i64 (i : Int)] 3)) 83 83 3 1 8 slInts (by decide) s'.a s'.n s'.c fL2 _ c3 [.int .i64 (i : Int)] rfl (by simp [Value.oneCell']) (by omega) (Upd.refl _ _)
        have hrun : (Builtin.append_ #[83, 83] 83 #[.slice s'.a s'.n s'.c, .slice (some ⟨wr.heap.size, 0, none⟩) 1 1]).run Ybaz.prog (wr.alloc (.cells #[.int .i64 (i : Int)] 3)) = .ok (.slice (some ⟨gX, 0, none⟩) (s'.n + 1) cX) w1 := hrun'
        have bf : bM ∉ fL2 := fun hm => MM.out.b (c4 bM hm)
        obtain ⟨w2, hrun2', p1, p2⟩ := (MM.out.m.keep r2 bf).put (P := Ybaz.prog) (intKeys Ybaz.underlying3) Ybaz.underlying183 L (.slice (some ⟨gX, 0, none⟩) (s'.n + 1) cX)
        have hrun2 : (Instr.mapUpdate 183 (.map (some bM)) (.int .i64 L) (.slice (some ⟨gX, 0, none⟩) (s'.n + 1) cX)).run Ybaz.prog w1 = .ok () w2 := hrun2'
        obtain ⟨n1, n2⟩ := MM.out.push c2 c4 c5 r1 r2 r3 p1 p2
        have N1 : Hid _ := n1
        have N2 : Hid (Upd (bM :: FPm) wr w2) := n2
        have N3 : Hid (∀ k ∈ gX :: FPm, Wc.heap.size ≤ k) := fun k hk => by
          simp only [List.mem_cons] at hk
          rcases hk with rfl | hk
          · rcases r3 with z | z
            · exact FM.out _ (c4 _ z)
            · have := UC.out.size; omega
          · exact FM.out k hk
        have HS : Hid (s'.n = (memN cmp cs i L).length) := c2
        clear hz hL e2 a1 a2 a3 a4 a5 a6 a7 hg c1 c2 c3 c4 c5 c6 c7 hml r1 r2 r3 p1 p2 hrun2' n1 n2 bf hsa hrun' hlk4
        go_wp2_with fail
        refine ⟨⟨i + 1, gX :: FPm, _, _, by omega, by go_num, N1.out.fin ?_, UC.out.trans N2.out (fun k hk => .inr ?_), N3.out⟩, by simp [intOf] <;> omega⟩
        · rw [MS.out, ← HL.out]
        · simp only [List.mem_cons] at hk
          rcases hk with rfl | hk
          · exact Nat.le_of_eq HBM.out.symm
          · exact FM.out k hk
    · as_aux_lemma =>
      have hi2 : i = G.length := by omega
      subst hi2
      have NB : Hid (∀ k ∈ bM :: FPm, w.heap.size ≤ k) := fun k hk => by
        have z1 := U0H.out.size
        simp only [List.mem_cons] at hk
        rcases hk with rfl | hk
        · have := HBM.out; omega
        · have := FM.out k hk; omega
      go_wp2_with fail
      obtain ⟨W2, hW2⟩ : ∃ z : World, z = wr := ⟨_, rfl⟩
      subst hW2
      have WF : Hid (∀ k ∈ fT, k < w.heap.size) := fun k hk => HX.out.lt k (by simp [hk])
      have UW2 : Hid (Upd [] w W2) := U0H.out.trans UC.out (by simp)
      go_loopw [119] (fun t119 wr => ∃ (i : Nat) (cs6 : List Cho), i ≤ labs.length ∧ t119 = .int .i64 i ∧ PX d bN bF m g G J sg ss og os v fT fR cs6 vs wr ∧ SameC cs cs6 ∧ (∀ C ∈ cs6, C.way ≤ 1) ∧ (∀ L ∈ labs.take i, NoCyc (RL G cmp cs6 (L : Int))) ∧ Upd fT W2 wr) (fun a _ => labs.length - (intOf a).toNat)
      case atStart => exact ⟨0, cs, by omega, rfl, HX.out.grow UW2.out, SameC.refl cs, HWY.out, by simp, Upd.refl _ _⟩
      case round =>
        obtain ⟨i, cs6, hi, rfl, h1, h2, h3, h4, h5⟩ := hrel
        have P6 : Hid _ := h1
        have SM : Hid (SameC cs cs6) := h2
        have WY : Hid (∀ C ∈ cs6, C.way ≤ 1) := h3
        have NC : Hid (∀ L ∈ labs.take i, NoCyc (RL G cmp cs6 (L : Int))) := h4
        have U6 : Hid (Upd fT W2 wr) := h5
        clear h1 h2 h3 h4 h5
        have fr : ∀ k, w.heap.size ≤ k → k ∉ fT := fun k hk hm => by have := WF.out k hm; omega
        have FR : Hid (∀ k, w.heap.size ≤ k → k ∉ fT) := fr
        have UWr : Hid (Upd fT w wr) := (UW2.out.mono (fun k hk => .inr (by simp at hk))).trans U6.out (fun k hk => .inl hk)
        by_cases hlt : i < labs.length
        · as_aux_lemma =>
          obtain ⟨L, hL⟩ := has_at labs hlt
          have hLm := List.mem_of_getElem? hL
          have hgne := (HLB.out L).mp hLm
          have SLw := (SLH.out.keep UC.out (by simp)).keep U6.out (fun k hk => fr k (HFR.out k (by simp [hk])))
          obtain ⟨gl, l1, l2, l3⟩ := SLw.get (j := i) (v := .int .i64 (L : Int)) (by rw [List.getElem?_map, hL]; rfl)
          subst l1
          have MGw := (MGH.out.grow UC.out).keep U6.out (fun k hk => fr k (HFR.out k (by simp only [List.mem_cons, List.mem_append] at hk ⊢; rcases hk with z | z <;> simp [z])))
          have MMw := MM.out.keep U6.out (fun k hk => fr k (NB.out k hk))
          have SCw := (SCH.out.keep UC.out (by simp)).keep U6.out (fun k hk => fr k (HFR.out k (by simp at hk; simp [hk])))
          have b0w : wr.cell? ⟨b0, 0, none⟩ = some (.pointer (some ⟨d, 0, none⟩)) := U6.out.cell (UC.out.cell B0H.out (by simp)) (fr b0 (HFR.out b0 (by simp)))
          obtain ⟨⟨sga, sgn, sgc⟩, fL1, a1, a2, a3, a4, a5, a6, a7⟩ := MGw.row L
          obtain ⟨⟨sma, smn, smc⟩, fL2, c1, c2, c3, c4, c5, c6, c7⟩ := MMw.row L
          simp only at a2 a3 a6 a7 c2 c3 c6 c7
          subst a2 c2
          have hlk1 := MGw.look a1
          have hlk2 := MMw.look c1
          have mmiff : ∀ x, x ∈ memN cmp cs G.length L ↔ cmp[x]? = some (L : Int) := fun x => by
            rw [mem_memN hgne]
            constructor
            · rintro ⟨q1, q2⟩; exact (HCH.out.labEq (by rw [allG_len]; exact q1)).mpr q2
            · intro q
              have q1 := (List.getElem?_eq_some_iff.mp q).1
              rw [CLH.out] at q1
              exact ⟨q1, (HCH.out.labEq (by rw [allG_len]; exact q1)).mp q⟩
          have MIF : Hid (∀ x, x ∈ memN cmp cs G.length L ↔ cmp[x]? = some (L : Int)) := mmiff
          have glt : ∀ c ∈ grpN cmp cs cs.length L, c < cs.length := fun c hc => (mem_grpN.mp hc).1
          have gmw : ∀ (c : Nat) (C : Cho), cs6[c]? = some C → (cmp[C.a0.i]? = some (L : Int) ↔ c ∈ grpN cmp cs cs.length L) := fun c C hC => by
            have hcl2 := (List.getElem?_eq_some_iff.mp hC).1
            rw [SM.out.1] at hcl2
            rw [mem_grpN, SM.out.lab cmp hC]
            obtain ⟨C0, e1, e2, e3⟩ := SM.out.2 c C hC
            have := HIM.out C0 (List.mem_of_getElem? e1)
            rw [HCH.out.labEq (by rw [allG_len, e2]; omega)]
            exact ⟨fun z => ⟨hcl2, z⟩, fun z => z.2⟩
          have GMW : Hid (∀ (c : Nat) (C : Cho), cs6[c]? = some C → (cmp[C.a0.i]? = some (L : Int) ↔ c ∈ grpN cmp cs cs.length L)) := gmw
          have KS : Hid _ := set67 wr d bN bF m g G J sg ss og os v fT fR cs6 vs P6.out (grpN cmp cs cs.length L) (memN cmp cs G.length L) sga sma sgc smc bc G.length cmp L
            (fun j x hj => by
              obtain ⟨b, q1, q2, q3⟩ := a3.get (j := j) (v := nI x) (by rw [List.getElem?_map, hj]; rfl)
              refine ⟨b, q1, a3.lt b (by rw [q2]; simp), fr b (HFR.out b ?_), q3⟩
              have := a4 b (by rw [q2]; simp)
              simp [this])
            (fun j x hj => by
              obtain ⟨b, q1, q2, q3⟩ := c3.get (j := j) (v := nI x) (by rw [List.getElem?_map, hj]; rfl)
              exact ⟨b, q1, q3⟩)
            (fun x z hx => by
              obtain ⟨b, q1, q2, q3⟩ := SCw.get (j := x) (v := iI z) (by rw [List.getElem?_map, hx]; rfl)
              injection q1 with q1; injection q1 with q1
              subst q1
              exact q3)
            CLH.out (grpN_nodup _ _ _ _) (fun c hc => by rw [SM.out.1]; exact glt c hc) (List.length_pos_iff.mpr hgne) (Nat.le_trans (grpN_len _ _ _ _) hcl) WY.out (by rw [SM.out.1]; omega) (memN_nodup _ _ _ _) mmiff HA.out HG.out hGl (by omega)
            (fun c C hC => (gmw c C hC).mp) (fun c hc C hC => (gmw c C hC).mpr hc)
            (fun C hC hl => by
              obtain ⟨C0, e1, e2, e3⟩ := SM.out.mem hC
              obtain ⟨L', i1, i2, i3, i4⟩ := HCI.out C0 e1
              rw [e2, i1] at hl
              injection hl with hl
              subst hl
              rw [e2, e3]
              exact ⟨fun t ht => (mmiff t).mpr (i3 t ht), fun t ht => (mmiff t).mpr (i4 t ht), (mmiff _).mpr i1, (mmiff _).mpr i2⟩)
            (fun C hC => by
              obtain ⟨C0, e1, e2, e3⟩ := SM.out.mem hC
              rw [e2, e3]
              exact HFL.out C0 e1)
          have HLI : Hid (labs[i]? = some L) := hL
          have HGN : Hid (grpN cmp cs cs.length L ≠ []) := hgne
          clear hL hLm hgne SLw l2 MGw SCw a1 a3 a4 a5 a6 a7 mmiff glt gmw
          have C3 : Hid _ := c3
          have C4 : Hid (∀ k ∈ fL2, k ∈ FPm) := c4
          have C1 : Hid _ := c1
          have MMW : Hid _ := MMw
          clear c3 c4 c5 c6 c7 c1 MMw
          have hd1 : b0 < wr.heap.size := World.block_lt_of_cell? _ _ b0w
          go_wp2_with fail
          refine Calls.mono KS.out ?_
          rintro e w6 ⟨bres, cs7, rfl, p1, p2, p3, p4, p5⟩
          have P7 : Hid _ := p1
          have SM7 : Hid (SameC cs6 cs7) := ⟨p2, fun c C hC => by
            obtain ⟨C0, e1, e2, e3, _⟩ := p3 c C hC
            exact ⟨C0, e1, e2, e3⟩⟩
          have KP7 : Hid (∀ (c : Nat) (C : Cho), cs7[c]? = some C → c ∉ grpN cmp cs cs.length L → cs6[c]? = some C) := fun c C hC hn => by
            obtain ⟨C0, e1, e2, e3, e4⟩ := p3 c C hC
            rw [e1, e4 hn]
          have NC7 : Hid (bres = true → (∀ C ∈ cs7, C.way ≤ 1) ∧ NoCyc (RL G cmp cs7 (L : Int))) := p4
          have U7 : Hid (Upd fT wr w6) := p5
          clear p1 p2 p3 p4 p5 KS
          cases bres with
          | true =>
            have NCT : Hid ((∀ C ∈ cs7, C.way ≤ 1) ∧ NoCyc (RL G cmp cs7 (L : Int))) := NC7.out rfl
            clear NC7
            as_aux_lemma =>
            clear hlk1 hlk2
            go_wp2_with fail
            refine ⟨⟨i + 1, cs7, by omega, by go_num, P7.out, SM.out.trans SM7.out, NCT.out.1, ?_, U6.out.trans U7.out (fun k hk => .inl hk)⟩, by simp [intOf] <;> omega⟩
            intro L' hL'
            by_cases e : L' = L
            · subst e; exact NCT.out.2
            · rw [List.take_add_one, HLI.out] at hL'
              simp only [Option.toList_some, List.mem_append, List.mem_singleton, e, or_false] at hL'
              refine (NC.out L' hL').same (fun c C hC hl => KP7.out c C hC (fun hg => e ?_))
              obtain ⟨C0, e1, e2, e3⟩ := SM7.out.2 c C hC
              have := (GMW.out c C0 e1).mpr hg
              rw [← e2, hl] at this
              injection this with this
              omega
          | false =>
            as_aux_lemma =>
            have b06 : w6.cell? ⟨b0, 0, none⟩ = some (.pointer (some ⟨d, 0, none⟩)) := U7.out.cell b0w (FR.out b0 (HFR.out b0 (by simp)))
            have d06 := (P7.out.cell (j := 0) rfl).1
            have d16 := (P7.out.cell (j := 1) rfl).1
            have hlk6 := (MMW.out.keep U7.out (fun k hk => FR.out k (NB.out k hk))).look (s := ⟨sma, _, smc⟩) C1.out
            have C36 : Hid _ := C3.out.keep U7.out (fun k hk => FR.out k (NB.out k (by simp [C4.out k hk])))
            have DD : Hid (d < w6.heap.size) := World.block_lt_of_cell? _ _ d06
            have hmw : G.length < 10000 := hGl
            have ML : Hid (∀ x ∈ memN cmp cs G.length L, x < G.length) := fun x hx => by
              have := (List.getElem?_eq_some_iff.mp ((MIF.out x).mp hx)).1
              rw [CLH.out] at this
              exact this
            have mlen : (memN cmp cs G.length L).length ≤ G.length := nodup_len _ _ (memN_nodup _ _ _ _) ML.out
            clear b0w hlk1 hlk2 l3 hd1
            go_wp2_with fail
            have B06 : Hid (w6.cell? ⟨b0, 0, none⟩ = some (.pointer (some ⟨d, 0, none⟩))) := b06
            have D06 : Hid (w6.cell? ⟨d, 0, none⟩ = some (.slice (some ⟨bN, 0, none⟩) m m)) := d06
            have D16 : Hid (w6.cell? ⟨d, 1, none⟩ = some (.slice (some ⟨bF, 0, none⟩) m m)) := d16
            clear b06 d06 d16 hlk6
            go_loopw [22, 137] (fun t22 t137 wx => ∃ (j : Nat) (kv : SV) (fk : List Nat), j ≤ (memN cmp cs G.length L).length ∧ t22 = .slice kv.a kv.n kv.c ∧ t137 = .int .i64 j ∧ kv.n = (((memN cmp cs G.length L).take j).filter (fun x => decide (x < m))).length ∧ Sl wx 3 1 kv.a kv.n kv.c fk ((((memN cmp cs G.length L).take j).filter (fun x => decide (x < m))).map nI) ∧ Upd [] w6 wx ∧ (∀ k ∈ fk, w6.heap.size ≤ k)) (fun _ a _ => (memN cmp cs G.length L).length - (intOf a).toNat)
            case atStart => exact ⟨0, ⟨none, 0, 0⟩, [], by omega, rfl, rfl, by simp, by simpa using Sl.empty _ _ _, Upd.refl _ _, by simp⟩
            case round =>
              obtain ⟨j, kv, fk, hj, rfl, rfl, k1, k2, k3, k4⟩ := hrel
              have K1 : Hid (kv.n = (((memN cmp cs G.length L).take j).filter (fun x => decide (x < m))).length) := k1
              have K2 : Hid _ := k2
              have K3 : Hid (Upd [] w6 wr) := k3
              have K4 : Hid (∀ k ∈ fk, w6.heap.size ≤ k) := k4
              have kn : kv.n ≤ 100000 := by
                have e1 := List.length_filter_le (fun x => decide (x < m)) ((memN cmp cs G.length L).take j)
                have e2 : ((memN cmp cs G.length L).take j).length ≤ j := by simp; omega
                omega
              by_cases hlt2 : j < (memN cmp cs G.length L).length
              · as_aux_lemma =>
                obtain ⟨x, hx⟩ := has_at _ hlt2
                obtain ⟨gm, q1, q2, q3⟩ := (C36.out.keep k3 (by simp)).get (j := j) (v := .int .i64 (x : Int)) (by rw [List.getElem?_map, hx]; rfl)
                subst q1
                have HXJ : Hid ((memN cmp cs G.length L)[j]? = some x) := hx
                have hxl := ML.out x (List.mem_of_getElem? hx)
                have b06 := k3.cell B06.out (by simp)
                have d06 := k3.cell D06.out (by simp)
                by_cases hxm : x < m
                · as_aux_lemma =>
                  obtain ⟨gX, cX, w1, hrun', r1, r2, r3⟩ := run_appended (P := Ybaz.prog) wr (wr.alloc (.cells #[.int .i64 (x : Int)] 3)) 83 83 3 1 8 slInts (by decide) kv.a kv.n kv.c fk _ k2 [.int .i64 (x : Int)] rfl (by simp [Value.oneCell']) (by omega) (Upd.refl _ _)
                  have hrun : (Builtin.append_ #[83, 83] 83 #[.slice kv.a kv.n kv.c, .slice (some ⟨wr.heap.size, 0, none⟩) 1 1]).run Ybaz.prog (wr.alloc (.cells #[.int .i64 (x : Int)] 3)) = .ok (.slice (some ⟨gX, 0, none⟩) (kv.n + 1) cX) w1 := hrun'
                  have R1 : Hid _ := r1
                  have R2 : Hid (Upd fk wr w1) := r2
                  have R3 : Hid (gX ∈ fk ∨ wr.heap.size ≤ gX) := r3
                  clear k1 k2 k3 k4 hx q2 r1 r2 r3 hrun'
                  go_wp2_with fail
                  have e9 : ((memN cmp cs G.length L).take (j + 1)).filter (fun x => decide (x < m)) = ((memN cmp cs G.length L).take j).filter (fun x => decide (x < m)) ++ [x] := by
                    rw [List.take_add_one, HXJ.out, List.filter_append]; simp [hxm]
                  refine ⟨⟨j + 1, ⟨some ⟨gX, 0, none⟩, kv.n + 1, cX⟩, [gX], by omega, rfl, by go_num, ?_, ?_, K3.out.trans R2.out (fun k hk => .inr (K4.out k hk)), ?_⟩, by simp [intOf] <;> omega⟩
                  · rw [e9, List.length_append, ← K1.out]; rfl
                  · rw [e9, List.map_append]; exact R1.out
                  · intro k hk
                    simp only [List.mem_singleton] at hk
                    subst hk
                    rcases R3.out with z | z
                    · exact K4.out _ z
                    · have := K3.out.size; omega
                · as_aux_lemma =>
                  clear k1 k2 k3 k4 hx q2
                  go_wp2_with fail
                  have e9 : ((memN cmp cs G.length L).take (j + 1)).filter (fun x => decide (x < m)) = ((memN cmp cs G.length L).take j).filter (fun x => decide (x < m)) := by
                    rw [List.take_add_one, HXJ.out, List.filter_append]; simp [hxm]
                  exact ⟨⟨j + 1, kv, fk, by omega, rfl, by go_num, by rw [e9]; exact K1.out, by rw [e9]; exact K2.out, K3.out, K4.out⟩, by simp [intOf] <;> omega⟩
              · as_aux_lemma =>
                have hj2 : j = (memN cmp cs G.length L).length := by omega
                obtain ⟨K, hK⟩ : ∃ K, K = (memN cmp cs G.length L).filter (fun x => decide (x < m)) := ⟨_, rfl⟩
                rw [hj2, List.take_length, ← hK] at k1 k2
                have KL : ∀ x ∈ K, x < m := fun x hx => by rw [hK] at hx; simpa using (List.mem_filter.mp hx).2
                have KN : K ≠ [] := by
                  obtain ⟨c, hc⟩ := List.exists_mem_of_ne_nil _ HGN.out
                  have hc2 := (mem_grpN.mp hc).1
                  obtain ⟨C, hC⟩ := has_at cs hc2
                  have e1 := HIM.out C (List.mem_of_getElem? hC)
                  have e2 : C.a0.i ∈ memN cmp cs G.length L := by
                    rw [mem_memN HGN.out]
                    have e3 := (mem_grpN.mp hc).2
                    rw [labC, choAt_eq hC] at e3
                    exact ⟨by omega, e3⟩
                  have e4 : C.a0.i ∈ K := by rw [hK]; exact List.mem_filter.mpr ⟨e2, by simpa using e1⟩
                  intro hn
                  rw [hn] at e4
                  simp at e4
                have KP : 0 < K.length := List.length_pos_iff.mpr KN
                have K12 : K.length ≤ 12 := by
                  have e1 : K.Nodup := by rw [hK]; exact List.Nodup.sublist List.filter_sublist (memN_nodup _ _ _ _)
                  have := nodup_len m K e1 KL
                  omega
                obtain ⟨gk, q1, q2, q3, q4, q5⟩ := k2.has (by omega)
                obtain ⟨M, hM⟩ : ∃ M, m = M + 1 := by
                  obtain ⟨x, hx⟩ := List.exists_mem_of_ne_nil _ KN
                  have := KL x hx
                  exact ⟨m - 1, by omega⟩
                obtain ⟨D, hD⟩ := fin_row M K (fun x hx => by have := KL x hx; omega)
                have Dz : D.size = K.length := by rw [← hD]; simp
                have Uw : Upd fT w wr := (UWr.out.trans U7.out (fun k hk => .inl hk)).trans K3.out (by simp)
                have gkf : w6.heap.size ≤ gk := K4.out gk (by rw [q2]; simp)
                have hbl : ∀ t < m, ∃ p : Nat, wr.cell? ⟨bF, t, none⟩ = some (.int .i64 p) ∧ bF < w6.heap.size := fun t ht => by
                  obtain ⟨p, hp⟩ := HF.out t ht
                  have z1 : bF < w.heap.size := World.block_lt_of_cell? _ _ hp
                  have z2 := UWr.out.size
                  have z3 := U7.out.size
                  exact ⟨p, Uw.cell hp HFT.out, by omega⟩
                have b06 := k3.cell B06.out (by simp)
                have d16 := k3.cell D16.out (by simp)
                have b0l : b0 < w6.heap.size := World.block_lt_of_cell? _ _ B06.out
                have hS : Sl wr 3 1 (some ⟨gk, 0, none⟩) K.length kv.c [gk] (D.toList.map fun t => nI t.val) := by
                  have e : (D.toList.map fun t : Fin (M + 1) => nI t.val) = K.map nI := by rw [← hD, List.map_map]; rfl
                  rw [e, ← k1, ← q1, ← q2]
                  exact k2
                rw [q1, k1]
                have KS : Hid _ := sort68g M K.length (fun x => if h : x.val < m then Classical.choose (hbl x.val h) else 0) wr gk kv.c #[.pointer (some ⟨b0, 0, none⟩)] KP K12 D Dz hS (fun Wx hu x y => by
                  have hx : x.val < m := by have := x.isLt; omega
                  have hy : y.val < m := by have := y.isLt; omega
                  have nb : ∀ k, k < w6.heap.size → k ∉ [gk] := fun k hk hm => by simp at hm; omega
                  have e1 := Classical.choose_spec (hbl x.val hx)
                  have e2 := Classical.choose_spec (hbl y.val hy)
                  rw [dif_pos hx, dif_pos hy]
                  exact first69 Wx b0 d bF m x.val y.val _ _ (by omega) hx hy (hu.cell b06 (nb b0 b0l)) (hu.cell d16 (nb d DD.out)) (hu.cell e1.1 (nb bF e1.2)) (hu.cell e2.1 (nb bF e2.2)))
                have PR : Hid _ := P7.out.grow K3.out
                have UWH : Hid (Upd fT w wr) := Uw
                have GKH : Hid (w6.heap.size ≤ gk) := gkf
                have HMH : Hid (m = M + 1) := hM
                have KPH : Hid (0 < K.length) := KP
                clear k1 k2 k3 k4 KL hK hD q4 q5 hbl Uw gkf hM Dz q3 hS
                go_wp2_with fail
                refine Calls.mono KS.out ?_
                rintro e w8 ⟨rfl, D', z1, z2, z3⟩
                have Z2 : Hid _ := z2
                have Z3 : Hid (Upd [gk] wr w8) := z3
                have Z1 : Hid (D'.size = K.length) := z1
                clear z1 z2 z3 KS
                go_wp2_with fail
                go_ret
                have ZL : (D'.toList.map (fun t => t.val)).length = K.length := by rw [List.length_map]; exact Z1.out
                have gn : w.heap.size ≤ gk := by
                  have := GKH.out
                  have := U7.out.size
                  have := UWr.out.size
                  omega
                refine ⟨cs7, PR.out.keep Z3.out (fun k hk hm => ?_), SM.out.trans SM7.out, UWH.out.trans Z3.out (fun k hk => ?_), .inr ⟨gk, kv.c, D'.toList.map (fun t => t.val), ?_, ?_, ?_, ?_⟩⟩
                · simp at hm; subst hm
                  have := HX.out.lt k hk
                  omega
                · simp at hk; subst hk; exact .inr gn
                · rw [ZL]; rfl
                · refine ⟨fun he => ?_, by rw [ZL]; exact K12⟩
                  rw [he] at ZL
                  have := KPH.out
                  simp only [List.length_nil] at ZL
                  omega
                · intro x hx
                  obtain ⟨t, _, rfl⟩ := List.mem_map.mp hx
                  have := t.isLt
                  have := HMH.out
                  omega
                · have := Z2.out
                  rw [ZL, List.map_map]
                  exact this
        · as_aux_lemma =>
          have hi2 : i = labs.length := by omega
          go_wp2_with fail
          go_ret
          refine ⟨cs6, P6.out, SM.out, UWr.out, .inl ⟨rfl, WY.out, ?_⟩⟩
          refine chosen_acy HA.out (cmp := cmp) (fun u x hx => ?_) (fun C hC => ?_) (fun L hL => ?_)
          · have hu : u < G.length := by
              apply Classical.byContradiction
              intro hn
              simp [outs, List.getD_eq_getElem?_getD, List.getElem?_eq_none (show G.length ≤ u by omega)] at hx
            have hx2 := HG.out u x hx
            have z1 := HCH.out.lab (x := u) (by rw [allG_len]; exact hu)
            have z2 := HCH.out.lab (x := x) (by rw [allG_len]; exact hx2)
            exact ⟨_, _, z1, z2, HCH.out.arc u x (allG_old cs G u x hx) _ _ z1 z2⟩
          · obtain ⟨C0, e1, e2, e3⟩ := SM.out.mem hC
            have := HCI.out C0 e1
            unfold ChIn at this ⊢
            rw [e2, e3]
            exact this
          · obtain ⟨c, C, hC, hl⟩ := hL
            obtain ⟨C0, e1, e2, e3⟩ := SM.out.2 c C hC
            have hlt2 : C.a0.i < G.length := by rw [e2]; have := HIM.out C0 (List.mem_of_getElem? e1); omega
            have z1 := HCH.out.lab (x := C.a0.i) (by rw [allG_len]; exact hlt2)
            rw [z1] at hl
            injection hl with hl
            subst hl
            refine NC.out _ ?_
            rw [hi2, List.take_length, HLB.out]
            intro he
            have : c ∈ grpN cmp cs cs.length (labOf cmp C.a0.i) := mem_grpN.mpr ⟨by have := (List.getElem?_eq_some_iff.mp hC).1; rw [SM.out.1] at this; exact this, SM.out.lab cmp hC⟩
            rw [he] at this
            simp at this
end Go.Proofs.YbulkctquGreatFmt

/-
  choose, walked: components, and the choices by their label.
-/
import Derived.Test.YbulkctquGreatFmtChoC
namespace Go.Proofs.YbulkctquGreatFmt
open Go.ChangeShapes Go.WideShapes Go.ChangeAt Go.RowKit Go.Ord
set_option linter.unusedVariables false
attribute [local go_sem ↓] Go.wp_at_zero Go.wp_at_succ
attribute [-go_sem] Go.Builtin.append_

noncomputable def ch15 : Code := ((Ybaz.f45.body.bind (fromReg 15)).getD .skip)
set_option maxHeartbeats 16000000 in
set_option maxRecDepth 100000 in
theorem cho15 {u4 u5 u6 u7 u8 u9 u10 u11 u12 u13 u14 u15 u16 u17 u18 u19 u20 u21 u22 u23 u24 u25 u26 u27 u28 u29 u30 u31 u32 u33 u34 u35 u36 u37 u38 u39 u40 u41 u42 u43 u44 u45 u46 u47 u48 u49 u50 u51 u52 u53 u54 u55 u56 u57 u58 u59 u60 u61 u62 u63 u64 u65 u66 u67 u68 u69 u70 u71 u72 u73 u74 u75 u76 u77 u78 u79 u80 u81 u82 u83 u84 u85 u86 u87 u88 u89 u90 u91 u92 u93 u94 u95 u96 u97 u98 u99 u100 u101 u102 u103 u104 u105 u106 u107 u108 u109 u110 u111 u112 u113 u114 u115 u116 u117 u118 u119 u120 u121 u122 u123 u124 u125 u126 u127 u128 u129 u130 u131 u132 u133 u134 u135 u136 u137 u138 u139 u140 u141 u142 u143 u144 u145 u146 u147 u148 u149 u150 u151 u152 u153 u154 u155 u156 u157 : Value} (w W : World) (d bN bF m b0 bQ bS lo : Nat) (aJ : Option Addr) (g : GG) (G : List (List Nat)) (J : List Bool) (sg : SG) (ss : List Sr) (og : OG) (os : List Ob) (v : SV) (fT fR : List Nat) (cs : List Cho) (vs : List (SV × SV)) (H : PX d bN bF m g G J sg ss og os v fT fR cs vs w) (U0 : Upd [] w W)
    (hb0 : W.cell? ⟨b0, 0, none⟩ = some (.pointer (some ⟨d, 0, none⟩))) (hb0l : w.heap.size ≤ b0) (Y : List SV) (fI : List (List Nat)) (KG : GrK lo W bQ bS aJ (allG G cs) J Y fI)
    (hcl : cs.length ≤ 60) (hway : ∀ C ∈ cs, C.way ≤ 1) (hfl : ∀ C ∈ cs, C.a0.f.length ≤ 100 ∧ C.a1.f.length ≤ 100 ∧ C.a0.f.Nodup ∧ C.a1.f.Nodup) (hci : ∀ (cmp : List Int) (siz : List Nat), Comp (allG G cs) cmp siz → ∀ C ∈ cs, ChIn cmp C) (hib : ∀ C ∈ cs, C.a0.i < m ∧ C.a1.i < m) (hmG : m ≤ G.length) (hm12 : m ≤ 12) (hA : Acy G) (hG : ∀ u, ∀ x ∈ outs G u, x < G.length) (hGl : G.length < 10000) (hwt : wt G < 800000) (hF : ∀ t < m, ∃ p : Nat, w.cell? ⟨bF, t, none⟩ = some (.int .i64 p)) (hFT : bF ∉ fT) :
    ch15.wp Ybaz.prog (bodyPost Ybaz.prog Ybaz.f45 (Thru (ChoPost d bN bF m g G J sg ss og os v fT fR cs vs w))) ⟨[.pointer (some ⟨d, 0, none⟩), .pointer (some ⟨b0, 0, none⟩), .slice none 0 0, .pointer (some ⟨bQ, 0, none⟩), u4, u5, u6, u7, u8, u9, u10, u11, u12, u13, u14, u15, u16, u17, u18, u19, u20, u21, u22, u23, u24, u25, u26, u27, u28, u29, u30, u31, u32, u33, u34, u35, u36, u37, u38, u39, u40, u41, u42, u43, u44, u45, u46, u47, u48, u49, u50, u51, u52, u53, u54, u55, u56, u57, u58, u59, u60, u61, u62, u63, u64, u65, u66, u67, u68, u69, u70, u71, u72, u73, u74, u75, u76, u77, u78, u79, u80, u81, u82, u83, u84, u85, u86, u87, u88, u89, u90, u91, u92, u93, u94, u95, u96, u97, u98, u99, u100, u101, u102, u103, u104, u105, u106, u107, u108, u109, u110, u111, u112, u113, u114, u115, u116, u117, u118, u119, u120, u121, u122, u123, u124, u125, u126, u127, u128, u129, u130, u131, u132, u133, u134, u135, u136, u137, u138, u139, u140, u141, u142, u143, u144, u145, u146, u147, u148, u149, u150, u151, u152, u153, u154, u155, u156, u157].toArray, []⟩ W := by
  have hag : ∀ u, ∀ x ∈ outs (allG G cs) u, x < (allG G cs).length := fun u x hx => by
    rw [allG_len]
    rcases allG_mem cs G u x hx with h | ⟨C, hC, h | h⟩
    · exact hG u x h
    · have := (hib C hC).1; omega
    · have := (hib C hC).2; omega
  have haw : wt (allG G cs) < 1000000 := by
    have := allG_wt cs G (fun C hC => ⟨(hfl C hC).1, (hfl C hC).2.1⟩)
    omega
  have KC : Hid _ := comp15g W bQ 0 (allG G cs) J (KG.read (by rw [allG_len]; omega)) hag (by rw [allG_len]; omega) haw
  have HX : Hid _ := H
  have U0H : Hid (Upd [] w W) := U0
  have HWY : Hid (∀ C ∈ cs, C.way ≤ 1) := hway
  have HFL : Hid (∀ C ∈ cs, C.a0.f.length ≤ 100 ∧ C.a1.f.length ≤ 100 ∧ C.a0.f.Nodup ∧ C.a1.f.Nodup) := hfl
  have HCI : Hid (∀ (cmp : List Int) (siz : List Nat), Comp (allG G cs) cmp siz → ∀ C ∈ cs, ChIn cmp C) := hci
  have HIM : Hid (∀ C ∈ cs, C.a0.i < m) := fun C hC => (hib C hC).1
  have HA : Hid (Acy G) := hA
  have HG : Hid (∀ u, ∀ x ∈ outs G u, x < G.length) := hG
  have HF : Hid (∀ t < m, ∃ p : Nat, w.cell? ⟨bF, t, none⟩ = some (.int .i64 p)) := hF
  have HFT : Hid (bF ∉ fT) := hFT
  have B0H : Hid (W.cell? ⟨b0, 0, none⟩ = some (.pointer (some ⟨d, 0, none⟩))) := hb0
  clear H U0 KG hway hfl hci hib hA hG hF hFT hb0 hag haw
  conv => arg 2; whnf
  go_wp2_with fail
  refine Calls.mono KC.out ?_
  rintro e wc ⟨vS, cmp, siz, fS, rfl, r1, r2, r3, r4, r5⟩
  rw [allG_len] at r1 ⊢
  obtain ⟨bc, hbc⟩ : ∃ b, b = W.heap.size + 4 := ⟨_, rfl⟩
  rw [← hbc] at r1 ⊢
  have UB : Upd [] W wc := ⟨r5.os, r5.tape, r5.output, r5.size, fun k hk _ => r5.block k hk⟩
  have SCH : Hid (Sl wc 3 1 (some ⟨bc, 0, none⟩) G.length G.length [bc] (cmp.map iI)) := r1
  have HCH : Hid _ := r3
  have BCL : Hid (w.heap.size ≤ bc) := by
    have := U0H.out.size
    show w.heap.size ≤ bc
    omega
  have UWc : Hid (Upd [] w wc) := U0H.out.trans UB (by simp)
  have b0c := UB.cell B0H.out (by simp)
  clear KC r1 r2 r3 r4 r5 hbc
  have hmm := @run_makeMap Ybaz.prog
  go_upto_region 17 with fail
  obtain ⟨bG, hbG⟩ : ∃ b, b = wc.heap.size := ⟨_, rfl⟩
  obtain ⟨W1, hW1⟩ : ∃ z : World, z = wc.alloc (.map #[] 0) := ⟨_, rfl⟩
  have M1 : MapAt W1 (ik .i64) bG (fun _ => none) := by rw [hW1, hbG]; exact MapAt.new _ _
  have U1 : Upd [] wc W1 := by rw [hW1]; exact Upd.alloc _ _ _
  rw [← hW1, ← hbG]
  have HBG : Hid (bG = wc.heap.size) := hbG
  have R1 : Hid _ := MRow.start M1
  have U1H : Hid (Upd [] wc W1) := U1
  have b01 := U1.cell b0c (by simp)
  have d61 := ((HX.out.grow (UWc.out.trans U1 (by simp))).cell (j := 6) rfl).1
  rw [HX.out.ch.n] at d61
  have B0C : Hid (wc.cell? ⟨b0, 0, none⟩ = some (.pointer (some ⟨d, 0, none⟩))) := b0c
  clear hW1 hbG M1 U1 hmm b0c UB
  go_upto_region 19 with fail
  clear b01 d61
  rename_i Kz hKz
  have HKz : Hid _ := hKz
  clear hKz
  go_loopw [13, 67] (fun t13 t67 wr => ∃ (i : Nat) (lv : SV) (fl labs FPG : List Nat) (SG' : Nat → Option SV) (fG : Nat → List Nat), i ≤ cs.length ∧ t13 = .slice lv.a lv.n lv.c ∧ t67 = .int .i64 i ∧ lv.n = labs.length ∧ Sl wr 3 1 lv.a lv.n lv.c fl (labs.map nI) ∧ MRow bG FPG SG' fG (grpN cmp cs i) wr ∧ (∀ L, L ∈ labs ↔ grpN cmp cs i L ≠ []) ∧ labs.length ≤ i ∧ Upd [] wc wr ∧ (∀ k ∈ FPG ++ fl, wc.heap.size ≤ k) ∧ (∀ k ∈ fl, k ∉ bG :: FPG)) (fun _ a _ => cs.length - (intOf a).toNat)
  case atStart => exact ⟨0, ⟨none, 0, 0⟩, [], [], [], _, _, by omega, rfl, rfl, rfl, Sl.empty _ _ _, R1.out.fin (grpN_zero cmp cs), fun L => by simp [grpN_zero], by simp, U1H.out, by simp, by simp⟩
  case round =>
    obtain ⟨i, lv, fl, labs, FPG, SG', fG, hi, rfl, rfl, h1, h2, h3, h4, h5, h6, h7, h8⟩ := hrel
    have LN : Hid (lv.n = labs.length) := h1
    have SL : Hid (Sl wr 3 1 lv.a lv.n lv.c fl (labs.map nI)) := h2
    have MG : Hid _ := h3
    have LB : Hid (∀ L, L ∈ labs ↔ grpN cmp cs i L ≠ []) := h4
    have UC : Hid (Upd [] wc wr) := h6
    have FM : Hid (∀ k ∈ FPG ++ fl, wc.heap.size ≤ k) := h7
    have AP : Hid (∀ k ∈ fl, k ∉ bG :: FPG) := h8
    have lvn : lv.n ≤ 60 := by omega
    clear h1 h2 h3 h4 h6 h7 h8
    by_cases hlt : i < cs.length
    · as_aux_lemma =>
      obtain ⟨C, hC⟩ := has_at cs hlt
      have PW := HX.out.grow (UWc.out.trans UC.out (by simp))
      obtain ⟨bX, ⟨sa0, sn0, sc0⟩, ⟨sa1, sn1, sc1⟩, e1, e2, e3, e4, e5, e6', e7, e8, e9, e10, e11⟩ := PW.ch.at hC
      simp only at e4 e6'
      have him := HIM.out C (List.mem_of_getElem? hC)
      obtain ⟨L, hL⟩ : ∃ L, L = labOf cmp C.a0.i := ⟨_, rfl⟩
      have hlab : labC cmp cs i = L := by rw [labC, choAt_eq hC, hL]
      have HLC : Hid (labC cmp cs i = L) := hlab
      have hz := HCH.out.lab (x := C.a0.i) (by rw [allG_len]; omega)
      rw [← hL] at hz
      obtain ⟨gc, q1, q2, q3⟩ := (SCH.out.keep UC.out (by simp)).get (j := C.a0.i) (v := .int .i64 (L : Int)) (by rw [List.getElem?_map, hz]; rfl)
      injection q1 with q1; injection q1 with q1
      subst q1
      have cbl : bc < wr.heap.size := World.block_lt_of_cell? _ _ q3
      have hvn : v.a = some ⟨bX, 0, none⟩ := e1
      rw [hvn]
      clear PW e1 e2 e3 e9 e10 e11 hz q2 hC hlab hL hvn
      go_upto_region 21 with fail
      obtain ⟨bL, hbL⟩ : ∃ b, b = wr.heap.size := ⟨_, rfl⟩
      obtain ⟨W2, hW2⟩ : ∃ z : World, z = wr.alloc (.cells #[.slice sa0 sn0 sc0, .int .i64 C.a0.i, .slice sa1 sn1 sc1, .int .i64 C.a1.i, .int .i64 C.way] 164) := ⟨_, rfl⟩
      have XL : Blk W2 bL 164 #[.slice sa0 sn0 sc0, .int .i64 C.a0.i, .slice sa1 sn1 sc1, .int .i64 C.a1.i, .int .i64 C.way] := by rw [hW2, hbL]; exact Blk.new _ _ _
      have U2 : Upd [] wr W2 := by rw [hW2]; exact Upd.alloc _ _ _
      rw [← hW2, ← hbL]
      have x1 : W2.cell? ⟨bL, 1, none⟩ = some (.int .i64 C.a0.i) := XL.cell 1
      have q4 := U2.cell q3 (by simp)
      have SL2 : Hid (Sl W2 3 1 lv.a lv.n lv.c fl (labs.map nI)) := SL.out.keep U2 (by simp)
      have MG2 : Hid _ := MG.out.grow U2
      have UC2 : Hid (Upd [] wc W2) := UC.out.trans U2 (by simp)
      clear hW2 hbL XL U2 q3 e4 e5 e6' e7 e8 cbl
      have hg3 := MG2.out.row L
      obtain ⟨s, fL1, a1, a2, a3, a4, a5, a6, a7⟩ := hg3
      have hlk := MG2.out.look a1
      have gl := grpN_len cmp cs i L
      by_cases hg : grpN cmp cs i L = []
      · as_aux_lemma =>
        have hsa := a6 hg
        have hq := q83n
        rw [hsa] at hlk
        obtain ⟨gX, cX, w1, hrun', r1, r2, r3⟩ := run_appended (P := Ybaz.prog) W2 (W2.alloc (.cells #[.int .i64 (L : Int)] 3)) 83 83 3 1 8 slInts (by decide) lv.a lv.n lv.c fl _ SL2.out [.int .i64 (L : Int)] rfl (by simp [Value.oneCell']) (by omega) (Upd.refl _ _)
        have hrun : (Builtin.append_ #[83, 83] 83 #[.slice lv.a lv.n lv.c, .slice (some ⟨W2.heap.size, 0, none⟩) 1 1]).run Ybaz.prog (W2.alloc (.cells #[.int .i64 (L : Int)] 3)) = .ok (.slice (some ⟨gX, 0, none⟩) (lv.n + 1) cX) w1 := hrun'
        have gXb : gX ∉ bG :: FPG := fun hm => by
          rcases r3 with z | z
          · exact AP.out gX z hm
          · simp only [List.mem_cons] at hm
            rcases hm with rfl | hm
            · have := MG2.out.m.lt; omega
            · have := MG2.out.lt gX hm; omega
        have MG3 : Hid _ := MG2.out.keep r2 (fun k hk hm => AP.out k hm hk)
        have R1' : Hid (Sl w1 3 1 (some ⟨gX, 0, none⟩) (lv.n + 1) cX [gX] (labs.map nI ++ [.int .i64 (L : Int)])) := r1
        have GXB : Hid (gX ∉ bG :: FPG) := gXb
        have GXL : Hid (wc.heap.size ≤ gX) := by
          show wc.heap.size ≤ gX
          rcases r3 with z | z
          · exact FM.out gX (by simp [z])
          · have := UC2.out.size; omega
        have U3 : Hid (Upd [] wc w1) := UC2.out.trans r2 (fun k hk => .inr (FM.out k (by simp [hk])))
        clear a1 a2 a3 a4 a5 a6 a7 r1 r2 r3 hrun' gXb
        go_upto_region 24 with fail
        clear hlk hrun x1 q4 hq
        obtain ⟨s', fL2, c1, c2, c3, c4, c5, c6, c7⟩ := MG3.out.row L
        have hlk3 := MG3.out.look c1
        obtain ⟨gY, cY, w2, hrun2', y1, y2, y3⟩ := run_appended (P := Ybaz.prog) w1 (w1.alloc (.cells #[.int .i64 (i : Int)] 3)) 83 83 3 1 8 slInts (by decide) s'.a s'.n s'.c fL2 _ c3 [.int .i64 (i : Int)] rfl (by simp [Value.oneCell']) (by omega) (Upd.refl _ _)
        have hrun2 : (Builtin.append_ #[83, 83] 83 #[.slice s'.a s'.n s'.c, .slice (some ⟨w1.heap.size, 0, none⟩) 1 1]).run Ybaz.prog (w1.alloc (.cells #[.int .i64 (i : Int)] 3)) = .ok (.slice (some ⟨gY, 0, none⟩) (s'.n + 1) cY) w2 := hrun2'
        have bf : bG ∉ fL2 := fun hm => MG3.out.b (c4 bG hm)
        obtain ⟨w3, hrun3', p1, p2⟩ := (MG3.out.m.keep y2 bf).put (P := Ybaz.prog) (intKeys Ybaz.underlying3) Ybaz.underlying183 L (.slice (some ⟨gY, 0, none⟩) (s'.n + 1) cY)
        have hrun3 : (Instr.mapUpdate 183 (.map (some bG)) (.int .i64 L) (.slice (some ⟨gY, 0, none⟩) (s'.n + 1) cY)).run Ybaz.prog w2 = .ok () w3 := hrun3'
        obtain ⟨n1, n2⟩ := MG3.out.push c2 c4 c5 y1 y2 y3 p1 p2
        have N1 : Hid _ := n1
        have N2 : Hid (Upd (bG :: FPG) w1 w3) := n2
        have GYL : Hid (gY ∈ FPG ∨ w1.heap.size ≤ gY) := y3.imp (c4 gY) id
        have HG0 : Hid (grpN cmp cs i L = []) := hg
        clear c1 c2 c3 c4 c5 c6 c7 y1 y2 y3 p1 p2 hrun2' hrun3' n1 n2 bf hg
        go_wp2_with fail
        refine ⟨⟨i + 1, ⟨some ⟨gX, 0, none⟩, lv.n + 1, cX⟩, [gX], labs ++ [L], gY :: FPG, _, _, by omega, rfl, by go_num, by rw [List.length_append, ← LN.out]; rfl, ?_, N1.out.fin ?_, ?_, by simp; omega, U3.out.trans N2.out (fun k hk => .inr ?_), ?_, ?_⟩, by simp [intOf] <;> omega⟩
        · have := R1'.out.keep N2.out (fun k hk hm => GXB.out (by simp at hk; subst hk; exact hm))
          rw [List.map_append]; exact this
        · rw [grpN_succ, HLC.out]
        · intro L'
          rw [grpN_succ, HLC.out, List.mem_append, LB.out L']
          by_cases e : L' = L
          · subst e; simp
          · simp [e]
        · simp only [List.mem_cons] at hk
          rcases hk with rfl | hk
          · exact Nat.le_of_eq HBG.out.symm
          · exact FM.out k (by simp [hk])
        · intro k hk
          simp only [List.mem_append, List.mem_cons, List.not_mem_nil, or_false] at hk
          rcases hk with (rfl | hk) | rfl
          · rcases GYL.out with z | z
            · exact FM.out k (by simp [z])
            · have := U3.out.size; omega
          · exact FM.out k (by simp [hk])
          · exact GXL.out
        · intro k hk hm
          simp only [List.mem_singleton] at hk
          subst hk
          simp only [List.mem_cons] at hm
          rcases hm with hm | rfl | hm
          · exact GXB.out (by simp [hm])
          · rcases GYL.out with z | z
            · exact GXB.out (by simp [z])
            · have := R1'.out.lt k (by simp); omega
          · exact GXB.out (by simp [hm])
      · as_aux_lemma =>
        obtain ⟨gg, hsa⟩ := a7 hg
        have hq := q83s
        have hlk0 := hlk
        rw [hsa] at hlk0
        obtain ⟨gY, cY, w2, hrun2', y1, y2, y3⟩ := run_appended (P := Ybaz.prog) W2 (W2.alloc (.cells #[.int .i64 (i : Int)] 3)) 83 83 3 1 8 slInts (by decide) s.a s.n s.c fL1 _ a3 [.int .i64 (i : Int)] rfl (by simp [Value.oneCell']) (by omega) (Upd.refl _ _)
        rw [hsa] at hrun2'
        have hrun2 : (Builtin.append_ #[83, 83] 83 #[.slice (some ⟨gg, 0, none⟩) s.n s.c, .slice (some ⟨W2.heap.size, 0, none⟩) 1 1]).run Ybaz.prog (W2.alloc (.cells #[.int .i64 (i : Int)] 3)) = .ok (.slice (some ⟨gY, 0, none⟩) (s.n + 1) cY) w2 := hrun2'
        have bf : bG ∉ fL1 := fun hm => MG2.out.b (a4 bG hm)
        obtain ⟨w3, hrun3', p1, p2⟩ := (MG2.out.m.keep y2 bf).put (P := Ybaz.prog) (intKeys Ybaz.underlying3) Ybaz.underlying183 L (.slice (some ⟨gY, 0, none⟩) (s.n + 1) cY)
        have hrun3 : (Instr.mapUpdate 183 (.map (some bG)) (.int .i64 L) (.slice (some ⟨gY, 0, none⟩) (s.n + 1) cY)).run Ybaz.prog w2 = .ok () w3 := hrun3'
        obtain ⟨n1, n2⟩ := MG2.out.push a2 a4 a5 y1 y2 y3 p1 p2
        have N1 : Hid _ := n1
        have N2 : Hid (Upd (bG :: FPG) W2 w3) := n2
        have GYL : Hid (gY ∈ FPG ∨ W2.heap.size ≤ gY) := y3.imp (a4 gY) id
        have HG0 : Hid (grpN cmp cs i L ≠ []) := hg
        clear a1 a2 a3 a4 a5 a6 a7 y1 y2 y3 p1 p2 hrun2' hrun3' n1 n2 bf hg hlk hsa
        go_wp2_with fail
        refine ⟨⟨i + 1, lv, fl, labs, gY :: FPG, _, _, by omega, rfl, by go_num, LN.out, SL2.out.keep N2.out AP.out, N1.out.fin ?_, ?_, by omega, UC2.out.trans N2.out (fun k hk => .inr ?_), ?_, ?_⟩, by simp [intOf] <;> omega⟩
        · rw [grpN_succ, HLC.out]
        · intro L'
          rw [grpN_succ, HLC.out, LB.out L']
          by_cases e : L' = L
          · subst e; simp [HG0.out]
          · simp [e]
        · simp only [List.mem_cons] at hk
          rcases hk with rfl | hk
          · exact Nat.le_of_eq HBG.out.symm
          · exact FM.out k (by simp [hk])
        · intro k hk
          simp only [List.mem_append, List.mem_cons] at hk
          rcases hk with (rfl | hk) | hk
          · rcases GYL.out with z | z
            · exact FM.out k (by simp [z])
            · have := UC2.out.size; omega
          · exact FM.out k (by simp [hk])
          · exact FM.out k (by simp [hk])
        · intro k hk hm
          simp only [List.mem_cons] at hm
          rcases hm with hm | rfl | hm
          · exact AP.out k hk (by simp [hm])
          · rcases GYL.out with z | z
            · exact AP.out k hk (by simp [z])
            · have := SL2.out.lt k hk; omega
          · exact AP.out k hk (by simp [hm])
    · as_aux_lemma =>
      have hi2 : i = cs.length := by omega
      subst hi2
      go_wp2_with fail
      refine HKz.out _ _ ?_
      have b0r := UC.out.cell B0C.out (by simp)
      rw [LN.out]
      refine cho26 w wr d bN bF m b0 bc bG lv.c lv.a g G J sg ss og os v fT fR cs vs HX.out (UWc.out.trans UC.out (by simp)) b0r cmp siz (SCH.out.keep UC.out (by simp)) HCH.out FPG SG' fG MG.out labs fl (by have := SL.out; rw [LN.out] at this; exact this) LB.out ?_ (by omega) hcl HWY.out HFL.out (HCI.out cmp siz HCH.out) HIM.out hmG hm12 HA.out HG.out hGl hwt HF.out HFT.out
      intro k hk
      have z1 := UWc.out.size
      simp only [List.mem_cons] at hk
      rcases hk with rfl | rfl | rfl | hk
      · exact hb0l
      · exact BCL.out
      · have := HBG.out; omega
      · have := FM.out k hk; omega
end Go.Proofs.YbulkctquGreatFmt

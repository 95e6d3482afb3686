/-
  The law of the serial histories: its end.
-/
import Derived.Test.YbulkctquGreatFmtCeB
import Derived.Test.YbulkctquGreatFmtWitC
import Derived.Test.YbulkctquGreatFmtNsp
import Derived.Test.YbulkctquGreatFmtLawM
import Derived.Deep.RegionWith
import Derived.BigQuiet
import Derived.Laws.Rows
import Derived.Deep.DeepCutAuto
namespace Go.Proofs.YbulkctquGreatFmt
open Go.ChangeShapes Go.WideShapes Go.ChangeAt Go.RowKit Go.Ord
set_option linter.unusedVariables false
attribute [-go_sem] Go.Builtin.append_ Go.Instr.buildSlice
noncomputable def q35 : Code := ((Ybaz.f4.body.bind (fromHead 35)).getD .skip)
set_option maxHeartbeats 16000000 in
set_option maxRecDepth 100000 in
theorem law35 {u0 u1 u2 u3 u4 u6 u7 u8 u9 u10 u11 u12 u13 u14 u15 u16 u17 u18 u19 u20 u21 u22 u23 u24 u25 u26 u27 u28 u29 u30 u31 u32 u33 u34 u35 u36 u37 u38 u39 u40 u41 u42 u43 u44 u45 u46 u47 u48 u49 u50 u51 u52 u53 u54 u55 u56 u57 u58 u59 u60 u61 u62 u63 u64 u65 u66 u67 u68 u69 u70 u71 u72 u73 u74 u75 u76 u77 u78 u79 u80 u81 u82 u83 u84 u85 u86 u87 u88 u89 u90 u91 u92 u93 u94 u95 u96 u97 u98 u99 u100 u101 u102 u103 u104 u105 u106 u107 u108 u109 u110 u111 u112 u113 u114 u115 u116 u117 u118 u119 u120 u121 u122 u123 u124 u125 u126 u127 u128 u129 u130 u131 u132 u133 u134 u135 u136 u137 u138 u139 u140 u141 u142 u143 u144 u145 u146 u147 u148 u149 u150 u151 u152 u153 u154 u155 u156 u157 u158 u159 u160 u161 u162 u163 u164 u165 u166 u167 u168 u169 u170 u171 : Value} (w wr : World) (R : HR) (hs : List (List Tx)) (T : Nat → Nat → Nat) (bH : Nat) (B0 : Below w.heap.size w wr) (H : HistE wr R hs) (S : Ser hs T) (h12 : (rksAll 0 hs).length ≤ 12) (hev : evAll hs ≤ 768) (hvb : ∀ s k e x, At hs s k e x → x.v < 900 ∧ x.x < 900) (cH : Blk wr bH 29 #[.slice (some ⟨R.top, 0, none⟩) hs.length 3]) :
    q35.wp Ybaz.prog (bodyPost Ybaz.prog Ybaz.f4 (fun e w2 => e = .returned (.bool true) ∧ Below w.heap.size w w2)) ⟨[u0, u1, u2, u3, u4, .pointer (some ⟨bH, 0, none⟩), u6, u7, u8, u9, u10, u11, u12, u13, u14, u15, u16, u17, u18, u19, u20, u21, u22, u23, u24, u25, u26, u27, u28, u29, u30, u31, u32, u33, u34, u35, u36, u37, u38, u39, u40, u41, u42, u43, u44, u45, u46, u47, u48, u49, u50, u51, u52, u53, u54, u55, u56, u57, u58, u59, u60, u61, u62, u63, u64, u65, u66, u67, u68, u69, u70, u71, u72, u73, u74, u75, u76, u77, u78, u79, u80, u81, u82, u83, u84, u85, u86, u87, u88, u89, u90, u91, u92, u93, u94, u95, u96, u97, u98, u99, u100, u101, u102, u103, u104, u105, u106, u107, u108, u109, u110, u111, u112, u113, u114, u115, u116, u117, u118, u119, u120, u121, u122, u123, u124, u125, u126, u127, u128, u129, u130, u131, u132, u133, u134, u135, u136, u137, u138, u139, u140, u141, u142, u143, u144, u145, u146, u147, u148, u149, u150, u151, u152, u153, u154, u155, u156, u157, u158, u159, u160, u161, u162, u163, u164, u165, u166, u167, u168, u169, u170, u171].toArray, []⟩ wr := by
  have HH : Hid _ := H
  have SS : Hid _ := S
  have BB : Hid _ := B0
  have H12 : Hid ((rksAll 0 hs).length ≤ 12) := h12
  have C6 : Hid _ := cert6 wr R hs T 3 H S (fun F bm w1 W H1 M => nsp14 w1 R hs H1 S.hok 3 bm F M W S.rok h12 (by omega) hvb)
  have CH : Hid (Blk wr bH 29 #[.slice (some ⟨R.top, 0, none⟩) hs.length 3]) := cH
  have hbH : bH < wr.heap.size := cH.lt
  have ch0 : wr.cell? ⟨bH, 0, none⟩ = some (.slice (some ⟨R.top, 0, none⟩) hs.length 3) := cH.cell 0
  clear H S B0 h12 hev hvb cH
  conv => arg 2; whnf
  go_wp2_with fail
  refine Calls.mono C6.out ?_
  rintro e' w1 ⟨vA, vB, g, c, P, F, A, zs, NM, vars, vers, os, ss, fa, ows, G, J, rfl, T2, NP0, W, Q, sO, hg⟩
  have hsz := T2.bel.size
  have UH : Hid (Upd [] wr w1) := upd_below T2.bel
  have TH : Hid _ := T2
  have NH : Hid _ := NP0
  have WW : Hid _ := W
  have QH : Hid _ := Q
  have OH : Hid _ := sO
  clear C6 ch0 T2 NP0 W Q sO
  go_upto_region 36 with fail
  obtain ⟨bV, hbV⟩ : ∃ z, z = w1.heap.size := ⟨_, rfl⟩
  obtain ⟨W2, hW2⟩ : ∃ z : World, z = w1.alloc (.cells #[.slice vA.a vA.n vA.c, .slice vB.a vB.n vB.c, .bool true, .slice (some ⟨g, 0, none⟩) P.length c, .pointer none, .slice none 0 0, .slice none 0 0, .slice none 0 0] 47) := ⟨_, rfl⟩
  have U2 : Upd [] w1 W2 := by rw [hW2]; exact Upd.alloc _ _ _
  have kV : Blk W2 bV 47 #[.slice vA.a vA.n vA.c, .slice vB.a vB.n vB.c, .bool true, .slice (some ⟨g, 0, none⟩) P.length c, .pointer none, .slice none 0 0, .slice none 0 0, .slice none 0 0] := by rw [hW2, hbV]; exact Blk.new _ _ _
  rw [← hW2, ← hbV]
  have UW2 : Hid (Upd [] wr W2) := UH.out.trans U2 (by simp)
  have U2H : Hid (Upd [] w1 W2) := U2
  have KV : Hid (Blk W2 bV 47 #[.slice vA.a vA.n vA.c, .slice vB.a vB.n vB.c, .bool true, .slice (some ⟨g, 0, none⟩) P.length c, .pointer none, .slice none 0 0, .slice none 0 0, .slice none 0 0]) := kV
  have d2 : W2.cell? ⟨bV, 2, none⟩ = some (.bool true) := kV.cell 2
  have d4 : W2.cell? ⟨bV, 4, none⟩ = some (.pointer none) := kV.cell 4
  have d5 : W2.cell? ⟨bV, 5, none⟩ = some (.slice none 0 0) := kV.cell 5
  have d7 : W2.cell? ⟨bV, 7, none⟩ = some (.slice none 0 0) := kV.cell 7
  have ch2 : W2.cell? ⟨bH, 0, none⟩ = some (.slice (some ⟨R.top, 0, none⟩) hs.length 3) := (CH.out.keep UW2.out (by simp)).cell 0
  have BW2 : Hid (Below w.heap.size w W2) := BB.out.trans (UW2.out.below BB.out.size (by simp))
  have H2 : Hid (HistE W2 R hs) := HH.out.below (UW2.out.below (Nat.le_refl _) (by simp))
  have K7 : Hid _ := names_any W2 R hs H2.out.base 3 SS.out.small SS.out.small2
  clear hW2 hbV U2 kV
  go_wp2_with fail
  refine Calls.mono K7.out ?_
  rintro e' w3 ⟨xA, xB, rfl, T3⟩
  have U3 : Hid (Upd [] W2 w3) := upd_below T3.bel
  obtain ⟨fA, s1, _, fB, s2, _, _⟩ := TH.out.sA
  obtain ⟨fA', s3, _, fB', s4, _, _⟩ := T3.sA
  have l1 := TH.out.lA
  have l2 := TH.out.lB
  have l3 := T3.lA
  have l4 := T3.lB
  have kV3 := KV.out.keep U3.out (by simp)
  have bw3 := BW2.out.trans (U3.out.below BW2.out.size (by simp))
  have hA1 : Hid (Sl w3 9 1 vA.a (allN 0 hs).length vA.c fA ((allN 0 hs).map strV)) := by rw [l1] at s1; exact (s1.keep U2H.out (by simp)).keep U3.out (by simp)
  have hB1 : Hid (Sl w3 9 1 vB.a (allA 0 hs).length vB.c fB ((allA 0 hs).map strV)) := by rw [l2] at s2; exact (s2.keep U2H.out (by simp)).keep U3.out (by simp)
  have hA2 : Hid (Sl w3 9 1 xA.a (allN 0 hs).length xA.c fA' ((allN 0 hs).map strV)) := by rw [l3] at s3; exact s3
  have hB2 : Hid (Sl w3 9 1 xB.a (allA 0 hs).length xB.c fB' ((allA 0 hs).map strV)) := by rw [l4] at s4; exact s4
  have d0 : w3.cell? ⟨bV, 0, none⟩ = some (.slice vA.a (allN 0 hs).length vA.c) := by have := kV3.cell 0; rw [this, ← l1]; rfl
  have d1 : w3.cell? ⟨bV, 1, none⟩ = some (.slice vB.a (allA 0 hs).length vB.c) := by have := kV3.cell 1; rw [this, ← l2]; rfl
  have ch3 : w3.cell? ⟨bH, 0, none⟩ = some (.slice (some ⟨R.top, 0, none⟩) hs.length 3) := U3.out.cell ch2 (by simp)
  have d3 : w3.cell? ⟨bV, 3, none⟩ = some (.slice (some ⟨g, 0, none⟩) P.length c) := kV3.cell 3
  have BW3 : Hid (Below w.heap.size w w3) := bw3
  have H3 : Hid (HistE w3 R hs) := H2.out.below (U3.out.below (Nat.le_refl _) (by simp))
  have O3 : Hid (Sl w3 9 1 (some ⟨g, 0, none⟩) P.length c [g] ((nmsOf (nmsAt A zs A.length) P).map strV)) := (OH.out.keep U2H.out (by simp)).keep U3.out (by simp)
  have nL : (allN 0 hs).length < 1000000 := by have := allN_len hs 0 SS.out.small2; have := SS.out.small; omega
  have nA : (allA 0 hs).length < 1000000 := by have := allA_len hs 0 SS.out.small2; have := SS.out.small; omega
  have hP12 : P.length ≤ 12 := by
    have h1 : P.length = A.length := len_of_mem QH.out.nd QH.out.mem
    have h2 : A.length = (rksAll 0 hs).length := by rw [← NH.out.hA]
    have := H12.out
    omega
  have K8a : Hid _ := ceq_same w3 xA.a vA.a xA.c vA.c fA' fA (allN 0 hs) hA2.out hA1.out nL
  have v1 : xA.val = .slice xA.a (allN 0 hs).length xA.c := by rw [← l3]; rfl
  have v2 : xB.val = .slice xB.a (allA 0 hs).length xB.c := by rw [← l4]; rfl
  rw [v1, v2]
  clear s1 s2 s3 s4 l1 l2 l3 l4 kV3 bw3 T3 v1 v2 d2 d4 d5 d7 ch2 K7
  go_wp2_with fail
  refine Calls.mono K8a.out ?_
  rintro e' w4 ⟨rfl, B4⟩
  have U4 : Hid (Upd [] w3 w4) := upd_below B4
  have d0 : w4.cell? ⟨bV, 1, none⟩ = some (.slice vB.a (allA 0 hs).length vB.c) := U4.out.cell d1 (by simp)
  have ch4 : w4.cell? ⟨bH, 0, none⟩ = some (.slice (some ⟨R.top, 0, none⟩) hs.length 3) := U4.out.cell ch3 (by simp)
  have d4 : w4.cell? ⟨bV, 3, none⟩ = some (.slice (some ⟨g, 0, none⟩) P.length c) := U4.out.cell d3 (by simp)
  have K8b : Hid _ := ceq_same w4 xB.a vB.a xB.c vB.c fB' fB (allA 0 hs) (hB2.out.keep U4.out (by simp)) (hB1.out.keep U4.out (by simp)) nA
  clear B4 K8a d1 ch3 d3
  go_wp2_with fail
  refine Calls.mono K8b.out ?_
  rintro e' w5 ⟨rfl, B5⟩
  have U5 : Hid (Upd [] w3 w5) := U4.out.trans (upd_below B5) (by simp)
  have ch5 : w5.cell? ⟨bH, 0, none⟩ = some (.slice (some ⟨R.top, 0, none⟩) hs.length 3) := (upd_below B5).cell ch4 (by simp)
  have d5 : w5.cell? ⟨bV, 3, none⟩ = some (.slice (some ⟨g, 0, none⟩) P.length c) := (upd_below B5).cell d4 (by simp)
  have K10 : Hid _ := wit10 w5 R hs T 3 (H3.out.below (U5.out.below (Nat.le_refl _) (by simp))) SS.out F A zs NM vars vers os ss fa ows G J NH.out WW.out P QH.out hP12 g c (O3.out.keep U5.out (by simp))
  clear B5 K8b ch4 d4 d0
  go_wp2_with fail
  refine Calls.mono K10.out ?_
  rintro e' w6 ⟨rfl, B6⟩
  clear K10
  go_wp2_with fail
  go_ret
  exact ⟨rfl, BW3.out.trans ((U5.out.trans (upd_below B6) (by simp)).below BW3.out.size (by simp))⟩
end Go.Proofs.YbulkctquGreatFmt

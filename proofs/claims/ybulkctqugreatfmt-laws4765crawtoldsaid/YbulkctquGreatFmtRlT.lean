/-
  The raw law: from the model on.
-/
import Derived.Test.YbulkctquGreatFmtRlW
import Derived.Test.YbulkctquGreatFmtMo5
import Derived.Deep.RegionWith
import Derived.BigQuiet
import Derived.Laws.Rows
import Derived.Deep.DeepCutAuto
import Derived.Lib.SliceRun
namespace Go.Proofs.YbulkctquGreatFmt
open Go.ChangeShapes Go.WideShapes Go.ChangeAt Go.RowKit Go.Ord
set_option linter.unusedVariables false
attribute [-go_sem] Go.Builtin.append_ Go.Instr.buildSlice Go.Instr.build
noncomputable def q43 : Code := ((Ybaz.f3.body.bind (fromHead 43)).getD .skip)
set_option maxHeartbeats 16000000 in
set_option maxRecDepth 100000 in
theorem law43 {u0 u1 u2 u3 u4 u5 u6 u7 u9 u10 u11 u12 u13 u14 u15 u16 u17 u18 u19 u20 u21 u22 u23 u24 u25 u26 u27 u28 u29 u30 u31 u32 u33 u34 u35 u36 u37 u38 u39 u40 u41 u42 u43 u44 u45 u46 u47 u48 u49 u50 u51 u52 u53 u54 u55 u56 u57 u58 u59 u60 u61 u62 u63 u64 u65 u66 u67 u68 u69 u70 u71 u72 u73 u74 u75 u76 u77 u78 u79 u80 u81 u82 u83 u84 u85 u86 u87 u88 u89 u90 u91 u92 u93 u94 u95 u96 u97 u98 u99 u100 u101 u102 u103 u104 u105 u106 u107 u108 u109 u110 u111 u112 u113 u114 u115 u116 u117 u118 u119 u120 u121 u122 u123 u124 u125 u126 u127 u128 u129 u130 u131 u132 u133 u134 u135 u136 u137 u138 u139 u140 u141 u142 u143 u144 u145 u146 u147 u148 u149 u150 u151 u152 u153 u154 u155 u156 u157 u158 u159 u160 u161 u162 u163 u164 u165 u166 u167 u168 u169 u170 u171 u172 u173 u174 u175 u176 u177 u178 u179 u180 u181 u182 u183 u184 u185 u186 u187 u188 u189 u190 u191 u192 u193 u194 u195 u196 u197 u198 u199 u200 u201 u202 u203 u204 u205 u206 u207 u208 u209 u210 u211 u212 u213 u214 u215 u216 u217 u218 u219 u220 u221 u222 u223 u224 u225 u226 u227 u228 u229 u230 u231 u232 u233 u234 u235 u236 u237 u238 u239 u240 u241 u242 u243 u244 u245 u246 u247 u248 u249 u250 u251 u252 u253 u254 u255 u256 u257 u258 u259 u260 u261 u262 u263 u264 u265 u266 u267 u268 u269 u270 u271 u272 u273 u274 u275 u276 u277 u278 u279 u280 u281 u282 u283 u284 u285 u286 u287 u288 u289 u290 u291 u292 u293 u294 u295 u296 u297 u298 u299 u300 u301 u302 u303 u304 u305 u306 u307 u308 u309 u310 u311 u312 u313 u314 u315 u316 u317 u318 u319 u320 u321 u322 u323 u324 u325 u326 u327 : Value} (w wr : World) (R : HR) (hs : List (List Tx)) (ta : Option Addr) (cap : Nat) (HT0 : hs ≠ [] → ta = some ⟨R.top, 0, none⟩) (H : HistE wr R hs) (Bd : Bnd hs) (bH : Nat) (cH : Blk wr bH 29 #[.slice ta hs.length cap]) (B0 : Below w.heap.size w wr)
    (K5 : ∀ w1, Below wr.heap.size wr w1 → Calls Ybaz.prog 5 #[.agg #[.slice ta hs.length cap]] w1 (MoPost w1 hs))
    (K6 : ∀ w1, Below wr.heap.size wr w1 → Calls Ybaz.prog 6 #[.agg #[.slice ta hs.length cap]] w1 (CertPostR w1 hs))
    (K7 : ∀ w1, Below wr.heap.size wr w1 → Calls Ybaz.prog 7 #[.agg #[.slice ta hs.length cap]] w1 (fun e w' => ∃ vA vB, e = .returned (.tuple #[vA.val, vB.val]) ∧ Two w1 w' vA vB (allN 0 hs) (allA 0 hs)))
    (K10 : ∀ (w1 : World) (F : Nat → Option Wr) (A : List Rk) (zs : List Nat) (NM : Nat × Nat → Option Nat) (vars vers : List Nat) (os : List Ob) (ss : List Sr) (fa : List Int) (ows G : List (List Nat)) (J : List Bool) (P : List Nat) (g c : Nat), Below wr.heap.size wr w1 → HOk hs → WF hs F → NP hs F A zs NM vars vers os ss fa ows G J → POR hs A zs os ss P → Sl w1 9 1 (some ⟨g, 0, none⟩) P.length c [g] ((nmsOf (nmsAt A zs A.length) P).map strV) → Calls Ybaz.prog 10 #[.agg #[.slice ta hs.length cap], .slice (some ⟨g, 0, none⟩) P.length c] w1 (fun e w' => e = .returned (.bool true) ∧ Below w1.heap.size w1 w')) :
    q43.wp Ybaz.prog (bodyPost Ybaz.prog Ybaz.f3 (fun e w2 => e = .returned (.bool true) ∧ Below w.heap.size w w2)) ⟨[u0, u1, u2, u3, u4, u5, u6, u7, .pointer (some ⟨bH, 0, none⟩), u9, u10, u11, u12, u13, u14, u15, u16, u17, u18, u19, u20, u21, u22, u23, u24, u25, u26, u27, u28, u29, u30, u31, u32, u33, u34, u35, u36, u37, u38, u39, u40, u41, u42, u43, u44, u45, u46, u47, u48, u49, u50, u51, u52, u53, u54, u55, u56, u57, u58, u59, u60, u61, u62, u63, u64, u65, u66, u67, u68, u69, u70, u71, u72, u73, u74, u75, u76, u77, u78, u79, u80, u81, u82, u83, u84, u85, u86, u87, u88, u89, u90, u91, u92, u93, u94, u95, u96, u97, u98, u99, u100, u101, u102, u103, u104, u105, u106, u107, u108, u109, u110, u111, u112, u113, u114, u115, u116, u117, u118, u119, u120, u121, u122, u123, u124, u125, u126, u127, u128, u129, u130, u131, u132, u133, u134, u135, u136, u137, u138, u139, u140, u141, u142, u143, u144, u145, u146, u147, u148, u149, u150, u151, u152, u153, u154, u155, u156, u157, u158, u159, u160, u161, u162, u163, u164, u165, u166, u167, u168, u169, u170, u171, u172, u173, u174, u175, u176, u177, u178, u179, u180, u181, u182, u183, u184, u185, u186, u187, u188, u189, u190, u191, u192, u193, u194, u195, u196, u197, u198, u199, u200, u201, u202, u203, u204, u205, u206, u207, u208, u209, u210, u211, u212, u213, u214, u215, u216, u217, u218, u219, u220, u221, u222, u223, u224, u225, u226, u227, u228, u229, u230, u231, u232, u233, u234, u235, u236, u237, u238, u239, u240, u241, u242, u243, u244, u245, u246, u247, u248, u249, u250, u251, u252, u253, u254, u255, u256, u257, u258, u259, u260, u261, u262, u263, u264, u265, u266, u267, u268, u269, u270, u271, u272, u273, u274, u275, u276, u277, u278, u279, u280, u281, u282, u283, u284, u285, u286, u287, u288, u289, u290, u291, u292, u293, u294, u295, u296, u297, u298, u299, u300, u301, u302, u303, u304, u305, u306, u307, u308, u309, u310, u311, u312, u313, u314, u315, u316, u317, u318, u319, u320, u321, u322, u323, u324, u325, u326, u327].toArray, []⟩ wr := by
  have HH : Hid _ := H
  have HT : Hid (hs ≠ [] → ta = some ⟨R.top, 0, none⟩) := HT0
  have BDH : Hid _ := Bd
  have BB : Hid (Below w.heap.size w wr) := B0
  have K5h : Hid (Calls Ybaz.prog 5 #[.agg #[.slice ta hs.length cap]] wr (MoPost wr hs)) := K5 wr (Below.refl _ _)
  have K6h : Hid (∀ w1, Below wr.heap.size wr w1 → Calls Ybaz.prog 6 #[.agg #[.slice ta hs.length cap]] w1 (CertPostR w1 hs)) := K6
  have K7h : Hid (∀ w1, Below wr.heap.size wr w1 → Calls Ybaz.prog 7 #[.agg #[.slice ta hs.length cap]] w1 (fun e w' => ∃ vA vB, e = .returned (.tuple #[vA.val, vB.val]) ∧ Two w1 w' vA vB (allN 0 hs) (allA 0 hs))) := K7
  have KTh : Hid (∀ (w1 : World) (F : Nat → Option Wr) (A : List Rk) (zs : List Nat) (NM : Nat × Nat → Option Nat) (vars vers : List Nat) (os : List Ob) (ss : List Sr) (fa : List Int) (ows G : List (List Nat)) (J : List Bool) (P : List Nat) (g c : Nat), Below wr.heap.size wr w1 → HOk hs → WF hs F → NP hs F A zs NM vars vers os ss fa ows G J → POR hs A zs os ss P → Sl w1 9 1 (some ⟨g, 0, none⟩) P.length c [g] ((nmsOf (nmsAt A zs A.length) P).map strV) → Calls Ybaz.prog 10 #[.agg #[.slice ta hs.length cap], .slice (some ⟨g, 0, none⟩) P.length c] w1 (fun e w' => e = .returned (.bool true) ∧ Below w1.heap.size w1 w')) := K10
  have CH : Hid (Blk wr bH 29 #[.slice ta hs.length cap]) := cH
  have hbH : bH < wr.heap.size := cH.lt
  have ch0 : wr.cell? ⟨bH, 0, none⟩ = some (.slice ta hs.length cap) := cH.cell 0
  clear H HT0 Bd B0 K5 K6 K7 K10 cH
  conv => arg 2; whnf
  go_wp2_with fail
  refine Calls.mono K5h.out ?_
  rintro e' w1 ⟨⟨sa, sn, sc⟩, fp, ws, bad, rfl, B1, hD⟩
  have U1 : Upd [] wr w1 := upd_below B1
  have ch1 : w1.cell? ⟨bH, 0, none⟩ = some (.slice ta hs.length cap) := U1.cell ch0 (by simp)
  have U1H : Hid (Upd [] wr w1) := U1
  have DH : Hid _ := hD
  have K6w : Hid (Calls Ybaz.prog 6 #[.agg #[.slice ta hs.length cap]] w1 (CertPostR w1 hs)) := K6h.out w1 B1
  clear hD ch0 K5h K6h B1 U1
  go_wp2_with fail
  refine Calls.mono K6w.out ?_
  rintro e' w2 (⟨hNO, B2, te, pe, rfl⟩ | ⟨hO, F, vA, vB, hW, T2, hC⟩)
  · as_aux_lemma =>
    have hb : bad = true := by
      rcases DH.out with ⟨h, _⟩ | ⟨_, h, _⟩
      · exact h
      · exact absurd h hNO
    subst hb
    have BW2 : Hid (Below w.heap.size w w2) := BB.out.trans ((U1H.out.trans (upd_below B2) (by simp)).below BB.out.size (by simp))
    clear hNO B2 ch1
    have q43n : ∀ (w : World) (a : Option Addr) (n c n' c' : Nat), (binOp .eql 43 (.slice a n c) (.slice none n' c')).run Ybaz.prog w = .ok (.bool a.isNone) w := fun w a n c n' c' => Lib.run_eql_slice_nil w _ _ a n c n' c' Ybaz.underlying43
    have q45n : ∀ (w : World) (a : Option Addr) (n c n' c' : Nat), (binOp .eql 45 (.slice a n c) (.slice none n' c')).run Ybaz.prog w = .ok (.bool a.isNone) w := fun w a n c n' c' => Lib.run_eql_slice_nil w _ _ a n c n' c' Ybaz.underlying45
    go_upto_region 46 with fail
    obtain ⟨bV, hbV⟩ : ∃ z, z = w2.heap.size := ⟨_, rfl⟩
    obtain ⟨W3, hW3⟩ : ∃ z : World, z = w2.alloc (.cells #[.slice none 0 0, .slice none 0 0, .bool false, .slice none 0 0, .pointer none, .slice none 0 0, .slice none 0 0, .slice none 0 0] 47) := ⟨_, rfl⟩
    have kV : Blk W3 bV 47 #[.slice none 0 0, .slice none 0 0, .bool false, .slice none 0 0, .pointer none, .slice none 0 0, .slice none 0 0, .slice none 0 0] := by rw [hW3, hbV]; exact Blk.new _ _ _
    have BW3 : Hid (Below w.heap.size w W3) := by show Below _ _ _; rw [hW3]; exact BW2.out.trans ((Upd.alloc [] _ _).below BW2.out.size (by simp))
    rw [← hW3, ← hbV]
    have d0 : W3.cell? ⟨bV, 0, none⟩ = some (.slice none 0 0) := kV.cell 0
    have d1 : W3.cell? ⟨bV, 1, none⟩ = some (.slice none 0 0) := kV.cell 1
    have d2 : W3.cell? ⟨bV, 2, none⟩ = some (.bool false) := kV.cell 2
    have d3 : W3.cell? ⟨bV, 3, none⟩ = some (.slice none 0 0) := kV.cell 3
    have d4 : W3.cell? ⟨bV, 4, none⟩ = some (.pointer none) := kV.cell 4
    have d5 : W3.cell? ⟨bV, 5, none⟩ = some (.slice none 0 0) := kV.cell 5
    have d6 : W3.cell? ⟨bV, 6, none⟩ = some (.slice none 0 0) := kV.cell 6
    have d7 : W3.cell? ⟨bV, 7, none⟩ = some (.slice none 0 0) := kV.cell 7
    clear hW3 hbV kV
    go_wp2_with fail
    go_ret
    exact ⟨rfl, BW3.out⟩
  obtain ⟨hb, hMI, hsn, hSl⟩ : bad = false ∧ MI hs hs.length 0 0 ws ∧ sn = ws.length ∧ Sl w1 61 5 sa sn sc fp (ws.flatMap Wz.cells) := by
    rcases DH.out with ⟨_, h⟩ | ⟨h1, _, h2, h3, h4, _⟩
    · exact absurd hO h
    · exact ⟨h1, h2, h3, h4⟩
  subst hb hsn
  obtain ⟨ser, vO, mp, vC, vR, vK, he, hVD⟩ : ∃ (ser : Bool) (vO : SV) (mp : Option Addr) (vC vR vK : SV), e' = .returned (.tuple #[.agg #[.slice vA.a vA.n vA.c, .slice vB.a vB.n vB.c, .bool ser, .slice vO.a vO.n vO.c, .pointer mp, .slice vC.a vC.n vC.c, .slice vR.a vR.n vR.c, .slice vK.a vK.n vK.c], .nilIface]) ∧ ((∃ (bM : Nat) (a b c f a' b' c' : Int), mp = some ⟨bM, 0, none⟩ ∧ ser = false ∧ Blk w2 bM 59 #[.int .i64 a, .int .i64 b, .int .i64 c, .int .u8 f, .int .i64 a', .int .i64 b', .int .i64 c'] ∧ ((∃ (s k e : Nat) (q : Wr), Unc hs F s k e q ∧ RC hs F s k e ∧ a = s ∧ b = k ∧ c = e ∧ f = 0 ∧ a' = q.s ∧ b' = q.k ∧ c' = q.e) ∨ RC hs F hs.length 0 0)) ∨ (mp = none ∧ ser = false ∧ RC hs F hs.length 0 0) ∨ (mp = none ∧ ser = true ∧ RC hs F hs.length 0 0 ∧ vC = ⟨none, 0, 0⟩ ∧ vK = ⟨none, 0, 0⟩ ∧ ∃ (g c : Nat) (P : List Nat) (A : List Rk) (zs : List Nat) (NM : Nat × Nat → Option Nat) (vars vers : List Nat) (os : List Ob) (ss : List Sr) (fa : List Int) (ows G : List (List Nat)) (J : List Bool), vO = ⟨some ⟨g, 0, none⟩, P.length, c⟩ ∧ NP hs F A zs NM vars vers os ss fa ows G J ∧ POR hs A zs os ss P ∧ Sl w2 9 1 (some ⟨g, 0, none⟩) P.length c [g] ((nmsOf (nmsAt A zs A.length) P).map strV))) := by
    rcases hC with ⟨bM, a, b, c, f, a', b', c', h1, h2, _, h4⟩ | ⟨h1, vO, vC, vR, vK, h2⟩ | ⟨h1, g, c, P, A, zs, NM, vars, vers, os, ss, fa, ows, G, J, h2, h3, h4, h5, _⟩
    · exact ⟨false, ⟨none, 0, 0⟩, some ⟨bM, 0, none⟩, ⟨none, 0, 0⟩, ⟨none, 0, 0⟩, ⟨none, 0, 0⟩, h1, .inl ⟨bM, a, b, c, f, a', b', c', rfl, rfl, h2, h4⟩⟩
    · exact ⟨false, vO, none, vC, vR, vK, h2, .inr (.inl ⟨rfl, rfl, h1⟩)⟩
    · exact ⟨true, ⟨some ⟨g, 0, none⟩, P.length, c⟩, none, ⟨none, 0, 0⟩, ⟨none, 0, 0⟩, ⟨none, 0, 0⟩, h2, .inr (.inr ⟨rfl, rfl, h1, rfl, rfl, g, c, P, A, zs, NM, vars, vers, os, ss, fa, ows, G, J, rfl, h3, h4, h5⟩)⟩
  subst he
  have hs9 := hO.small
  have OH : Hid _ := hO
  have WH : Hid _ := hW
  have MH : Hid _ := hMI
  have hwl : ws.length ≤ 900 := hMI.len BDH.out
  have TH : Hid _ := T2
  have VDH : Hid ((∃ (bM : Nat) (a b c f a' b' c' : Int), mp = some ⟨bM, 0, none⟩ ∧ ser = false ∧ Blk w2 bM 59 #[.int .i64 a, .int .i64 b, .int .i64 c, .int .u8 f, .int .i64 a', .int .i64 b', .int .i64 c'] ∧ ((∃ (s k e : Nat) (q : Wr), Unc hs F s k e q ∧ RC hs F s k e ∧ a = s ∧ b = k ∧ c = e ∧ f = 0 ∧ a' = q.s ∧ b' = q.k ∧ c' = q.e) ∨ RC hs F hs.length 0 0)) ∨ (mp = none ∧ ser = false ∧ RC hs F hs.length 0 0) ∨ (mp = none ∧ ser = true ∧ RC hs F hs.length 0 0 ∧ vC = ⟨none, 0, 0⟩ ∧ vK = ⟨none, 0, 0⟩ ∧ ∃ (g c : Nat) (P : List Nat) (A : List Rk) (zs : List Nat) (NM : Nat × Nat → Option Nat) (vars vers : List Nat) (os : List Ob) (ss : List Sr) (fa : List Int) (ows G : List (List Nat)) (J : List Bool), vO = ⟨some ⟨g, 0, none⟩, P.length, c⟩ ∧ NP hs F A zs NM vars vers os ss fa ows G J ∧ POR hs A zs os ss P ∧ Sl w2 9 1 (some ⟨g, 0, none⟩) P.length c [g] ((nmsOf (nmsAt A zs A.length) P).map strV))) := hVD
  have U2 : Upd [] wr w2 := U1H.out.trans (upd_below T2.bel) (by simp)
  have U2H : Hid (Upd [] wr w2) := U2
  have SW2 : Hid (Sl w2 61 5 sa ws.length sc fp (ws.flatMap Wz.cells)) := hSl.keep (upd_below T2.bel) (by simp)
  have ch2 : w2.cell? ⟨bH, 0, none⟩ = some (.slice ta hs.length cap) := U2.cell (CH.out.cell 0) (by simp)
  clear hC hVD hO hW hMI hSl T2 U2 ch1 K6w DH
  go_upto_region 49 with fail
  obtain ⟨bV, hbV⟩ : ∃ z, z = w2.heap.size := ⟨_, rfl⟩
  obtain ⟨W3, hW3⟩ : ∃ z : World, z = w2.alloc (.cells #[.slice vA.a vA.n vA.c, .slice vB.a vB.n vB.c, .bool ser, .slice vO.a vO.n vO.c, .pointer mp, .slice vC.a vC.n vC.c, .slice vR.a vR.n vR.c, .slice vK.a vK.n vK.c] 47) := ⟨_, rfl⟩
  have kV : Blk W3 bV 47 #[.slice vA.a vA.n vA.c, .slice vB.a vB.n vB.c, .bool ser, .slice vO.a vO.n vO.c, .pointer mp, .slice vC.a vC.n vC.c, .slice vR.a vR.n vR.c, .slice vK.a vK.n vK.c] := by rw [hW3, hbV]; exact Blk.new _ _ _
  have U23 : Upd [] w2 W3 := by rw [hW3]; exact Upd.alloc _ _ _
  rw [← hW3, ← hbV]
  have U23H : Hid (Upd [] w2 W3) := U23
  have KV : Hid (Blk W3 bV 47 #[.slice vA.a vA.n vA.c, .slice vB.a vB.n vB.c, .bool ser, .slice vO.a vO.n vO.c, .pointer mp, .slice vC.a vC.n vC.c, .slice vR.a vR.n vR.c, .slice vK.a vK.n vK.c]) := kV
  have UW3 : Hid (Upd [] wr W3) := U2H.out.trans U23 (by simp)
  have ch3 : W3.cell? ⟨bH, 0, none⟩ = some (.slice ta hs.length cap) := U23.cell ch2 (by simp)
  have K7w : Hid _ := K7h.out W3 (UW3.out.below (Nat.le_refl _) (by simp))
  clear hW3 hbV U23 kV ch2 K7h
  go_wp2_with fail
  refine Calls.mono K7w.out ?_
  rintro e' w4 ⟨xA, xB, rfl, T3⟩
  have U4 : Hid (Upd [] W3 w4) := upd_below T3.bel
  obtain ⟨fA, s1, _, fB, s2, _, _⟩ := TH.out.sA
  obtain ⟨fA', s3, _, fB', s4, _, _⟩ := T3.sA
  have l1 := TH.out.lA
  have l2 := TH.out.lB
  have l3 := T3.lA
  have l4 := T3.lB
  have kV4 := KV.out.keep U4.out (by simp)
  have hA1 : Hid (Sl w4 9 1 vA.a (allN 0 hs).length vA.c fA ((allN 0 hs).map strV)) := by rw [l1] at s1; exact (s1.keep U23H.out (by simp)).keep U4.out (by simp)
  have hB1 : Hid (Sl w4 9 1 vB.a (allA 0 hs).length vB.c fB ((allA 0 hs).map strV)) := by rw [l2] at s2; exact (s2.keep U23H.out (by simp)).keep U4.out (by simp)
  have hA2 : Hid (Sl w4 9 1 xA.a (allN 0 hs).length xA.c fA' ((allN 0 hs).map strV)) := by rw [l3] at s3; exact s3
  have hB2 : Hid (Sl w4 9 1 xB.a (allA 0 hs).length xB.c fB' ((allA 0 hs).map strV)) := by rw [l4] at s4; exact s4
  have d0 : w4.cell? ⟨bV, 0, none⟩ = some (.slice vA.a (allN 0 hs).length vA.c) := by have := kV4.cell 0; rw [this, ← l1]; rfl
  have d1 : w4.cell? ⟨bV, 1, none⟩ = some (.slice vB.a (allA 0 hs).length vB.c) := by have := kV4.cell 1; rw [this, ← l2]; rfl
  have nL : (allN 0 hs).length < 1000000 := by have := allN_len hs 0 OH.out.small2; omega
  have nA : (allA 0 hs).length < 1000000 := by have := allA_len hs 0 OH.out.small2; omega
  have K8a : Hid _ := ceq_same w4 xA.a vA.a xA.c vA.c fA' fA (allN 0 hs) hA2.out hA1.out nL
  have v1 : xA.val = .slice xA.a (allN 0 hs).length xA.c := by rw [← l3]; rfl
  have v2 : xB.val = .slice xB.a (allA 0 hs).length xB.c := by rw [← l4]; rfl
  rw [v1, v2]
  clear s1 s2 s3 s4 l1 l2 l3 l4 kV4 T3 v1 v2 ch3 K7w
  go_wp2_with fail
  refine Calls.mono K8a.out ?_
  rintro e' w5 ⟨rfl, B5⟩
  have U5 : Hid (Upd [] w4 w5) := upd_below B5
  have d1 : w5.cell? ⟨bV, 1, none⟩ = some (.slice vB.a (allA 0 hs).length vB.c) := U5.out.cell d1 (by simp)
  have K8b : Hid _ := ceq_same w5 xB.a vB.a xB.c vB.c fB' fB (allA 0 hs) (hB2.out.keep U5.out (by simp)) (hB1.out.keep U5.out (by simp)) nA
  clear B5 K8a d0
  go_wp2_with fail
  refine Calls.mono K8b.out ?_
  rintro e' w6 ⟨rfl, B6⟩
  have U36 : Hid (Upd [] W3 w6) := (U4.out.trans U5.out (by simp)).trans (upd_below B6) (by simp)
  clear B6 K8b d1
  go_upto_region 54 with fail
  obtain ⟨bW, hbW⟩ : ∃ z, z = w6.heap.size := ⟨_, rfl⟩
  obtain ⟨WQ, hWQ⟩ : ∃ z : World, z = w6.alloc (.cells #[.int .i64 0, .int .i64 0, .int .i64 0, .int .u8 0, .int .i64 0, .int .i64 0, .int .i64 0] 59) := ⟨_, rfl⟩
  have kW : Blk WQ bW 59 #[.int .i64 0, .int .i64 0, .int .i64 0, .int .u8 0, .int .i64 0, .int .i64 0, .int .i64 0] := by rw [hWQ, hbW]; exact Blk.new _ _ _
  have U37 : Upd [] W3 WQ := by rw [hWQ]; exact U36.out.trans (Upd.alloc [] _ _) (by simp)
  have UWQ : Upd [] wr WQ := UW3.out.trans U37 (by simp)
  rw [← hWQ, ← hbW]
  have hz2 := U2H.out.size
  have hz3 := UW3.out.size
  have hz6 := U36.out.size
  have hbV2 : bV < W3.heap.size := KV.out.lt
  have hfp : bW ∉ fp := fun hm => by have := SW2.out.lt _ hm; have := U23H.out.size; omega
  have ch7 : WQ.cell? ⟨bH, 0, none⟩ = some (.slice ta hs.length cap) := UWQ.cell (CH.out.cell 0) (by simp)
  have U27 : Upd [] w2 WQ := U23H.out.trans U37 (by simp)
  have V7 : VD WQ hs F bW ser mp vC vK (∀ w1, Upd [bW] WQ w1 → Calls Ybaz.prog 10 #[.agg #[.slice ta hs.length cap], .slice vO.a vO.n vO.c] w1 (fun e w' => e = .returned (.bool true) ∧ Below w1.heap.size w1 w')) := by
    rcases VDH.out with ⟨bM, a, b, c, f, a', b', c', h1, h2, h3, h4⟩ | h | ⟨h1, h2, h3, h4, h5, g, c, P, A, zs, NM, vars, vers, os, ss, fa, ows, G, J, rfl, h6, h7, h8⟩
    · exact .inl ⟨bM, a, b, c, f, a', b', c', h1, h2, h3.keep U27 (by simp), by have := h3.lt; have := U23H.out.size; omega, h4⟩
    · exact .inr (.inl h)
    · refine .inr (.inr ⟨h1, h2, h3, h4, h5, fun w1 hu => ?_⟩)
      have hg := h8.lt g (by simp)
      have hz := U23H.out.size
      exact KTh.out w1 F A zs NM vars vers os ss fa ows G J P g c ((UWQ.trans hu (fun k hk => .inr (by simp at hk; omega))).below (Nat.le_refl _) (by simp)) OH.out WH.out h6 h7 ((h8.keep U27 (by simp)).keep hu (fun k hk hm => by simp at hk hm; omega))
  have HH0 : Hid _ := HH.out
  have SWH : Hid (Sl WQ 61 5 sa ws.length sc fp (ws.flatMap Wz.cells)) := SW2.out.keep U27 (by simp)
  have BB7 : Hid (Below w.heap.size w WQ) := BB.out.trans (UWQ.below BB.out.size (by simp))
  have BHH : Hid (Below wr.heap.size wr WQ) := UWQ.below (Nat.le_refl _) (by simp)
  have KV7 : Hid (Blk WQ bV 47 #[.slice vA.a vA.n vA.c, .slice vB.a vB.n vB.c, .bool ser, .slice vO.a vO.n vO.c, .pointer mp, .slice vC.a vC.n vC.c, .slice vR.a vR.n vR.c, .slice vK.a vK.n vK.c]) := KV.out.keep U37 (by simp)
  have KW : Hid (Blk WQ bW 59 #[.int .i64 0, .int .i64 0, .int .i64 0, .int .u8 0, .int .i64 0, .int .i64 0, .int .i64 0]) := kW
  have VH : Hid (VD WQ hs F bW ser mp vC vK (∀ w1, Upd [bW] WQ w1 → Calls Ybaz.prog 10 #[.agg #[.slice ta hs.length cap], .slice vO.a vO.n vO.c] w1 (fun e w' => e = .returned (.bool true) ∧ Below w1.heap.size w1 w'))) := V7
  have CH7 : Hid (WQ.cell? ⟨bH, 0, none⟩ = some (.slice ta hs.length cap)) := ch7
  have n1 : bV ≠ bW := by omega
  have n2 : bH ≠ bW := by omega
  have n3 : bW ∉ fp := hfp
  have hgW : w.heap.size ≤ bW := by have := BB.out.size; omega
  have hgH : wr.heap.size ≤ bW := by omega
  have hb56 := bd56h
  have hb59 := bd59
  clear BB KV CH
  have BB : Hid (Below w.heap.size w WQ) := BB7.out
  have KV : Hid (Blk WQ bV 47 #[.slice vA.a vA.n vA.c, .slice vB.a vB.n vB.c, .bool ser, .slice vO.a vO.n vO.c, .pointer mp, .slice vC.a vC.n vC.c, .slice vR.a vR.n vR.c, .slice vK.a vK.n vK.c]) := KV7.out
  have CH : Hid (WQ.cell? ⟨bH, 0, none⟩ = some (.slice ta hs.length cap)) := CH7.out
  have HWB : Hid (∀ wx, Upd [bW] WQ wx → HistE wx R hs) := fun wx hu => HH.out.below (BHH.out.trans (hu.below BHH.out.size (by simpa using hgH)))
  have hbW' : bW < WQ.heap.size := kW.lt
  have hbV' : bV < WQ.heap.size := KV.out.lt
  clear hWQ hbW kW U37 UWQ hz2 hz3 hz6 hbV2 hfp U27 V7 U36 U4 U5 hA1 hB1 hA2 hB2 nL nA UW3 U23H U2H U1H SW2 VDH TH HH0 BB7 KV7 CH7 KTh BDH
  go_wp2_with fail
  clear ch7
  refine wp_loopC [none, none, none, none, none, none, none, none, none, none, none, none, none, none, none, none, none, none, none, none, none, none, none, none, some (some true), none, some none, some none, some none, some none, some none, some none, some none, none, none, none, none, none, none, none, none, none, none, none, none, none, none, none, none, none, none, none, none, none, none, none, none, none, none, none, none, none, none, none, none, none, none, none, none, none, none, none, none, none, none, none, none, none, none, none, none, none, none, none, none, none, none, none, none, none, none, none, none, none, none, none, none, none, none, none, none, none, none, none, none, none, none, none, none, none, none, none, none, none, none, none, none, none, none, none, none, none, none, none, none, none, none, none, none, none, none, none, none, none, none, none, none, none, none, none, none, none, none, none, none, none, none, none, none, none, none, none, none, none, none, none, none, none, none, none, none, none, none, none, none, none, none, none, none, none, none, none, none, none, none, none, none, none, none, none, none, none, none, none, none, none, none, none, none, none, none, none, none, none, none, none, none, none, none, none, none, none, none, none, none, none, none, none, none, none, none, none, none, none, none, none, none, none, none, none, some (some false), some none, some none, some none, some none, some none, some none, some none, some none, some none, some none, some none, some none, some none, some none, some none, some none, some none, some none, some none, some none, some none, some none, some none, some none, some none, some none, some none, some none, some none, some none, some none, some none, some none, some none, some none, some none, some none, some none, some none, some none, some none, some none, some none, some none, some none, some none, some none, some none, some none, some none, some none, some none, some none, some none, some none, some none, some none, some none, some none, some none, some none, some none, some none, some none, none, none, none, none, none, none, none, none, none, none, none, none, none, none, none, none, none, none, none, none, none, none, none, none, none, none, none, none, none, none, none, none, none, none, none, none, none, none, none, none, none, none, none] (fun nn tx ty wx => ∃ (c : Nat) (fd : Bool), c ≤ hs.length ∧ nn = hs.length - c ∧ tx = .int .i64 c ∧ ty = .bool fd ∧ Upd [bW] WQ wx ∧ WS hs F bW c 0 0 fd wx) hs.length (.int .i64 0) (.bool false) rfl ⟨0, false, by omega, by omega, rfl, rfl, Upd.refl _ _, .inl ⟨rfl, RC.start, KW.out⟩⟩ ?_
  intro n6 uu x6 y6 wx J6 K6 hrel hJ6 hK6
  obtain ⟨s, fd, hs1, rfl, rfl, rfl, h5, h6⟩ := hrel
  have HJ6 : Hid _ := hJ6
  have UX : Hid (Upd [bW] WQ wx) := h5
  have XS : Hid (WS hs F bW s 0 0 fd wx) := h6
  clear hJ6 h5 h6
  dsimp only [fillC, Nat.reduceAdd]
  by_cases hlts : s < hs.length
  · as_aux_lemma =>
    obtain ⟨l, hl⟩ := has_at hs hlts
    have hta : ta = some ⟨R.top, 0, none⟩ := HT.out (by intro h; rw [h] at hlts; simp at hlts)
    subst hta
    have L3 : Hid (hs[s]? = some l) := hl
    obtain ⟨o1, c1, c2⟩ := (HWB.out wx UX.out).base.ses s l hl
    have C2 : Hid (l ≠ [] → o1 = some ⟨R.ses s, 0, none⟩) := c2
    have hl9 := OH.out.small2 l (List.mem_of_getElem? hl)
    clear hl c2
    go_wp2_with fail
    clear c1
    refine wp_loopC [none, none, none, none, none, none, none, none, none, none, none, none, none, none, none, none, none, none, none, none, none, none, none, none, some (some true), none, none, none, some none, some none, some none, some none, some none, none, none, none, none, none, none, none, none, none, none, none, none, none, none, none, none, none, none, none, none, none, none, none, none, none, none, none, none, none, none, none, none, none, none, none, none, none, none, none, none, none, none, none, none, none, none, none, none, none, none, none, none, none, none, none, none, none, none, none, none, none, none, none, none, none, none, none, none, none, none, none, none, none, none, none, none, none, none, none, none, none, none, none, none, none, none, none, none, none, none, none, none, none, none, none, none, none, none, none, none, none, none, none, none, none, none, none, none, none, none, none, none, none, none, none, none, none, none, none, none, none, none, none, none, none, none, none, none, none, none, none, none, none, none, none, none, none, none, none, none, none, none, none, none, none, none, none, none, none, none, none, none, none, none, none, none, none, none, none, none, none, none, none, none, none, none, none, none, none, none, none, none, none, none, none, none, none, none, none, none, none, none, none, none, none, none, none, none, none, none, none, none, none, none, some (some false), some none, some none, some none, some none, some none, some none, some none, some none, some none, some none, some none, some none, some none, some none, some none, some none, some none, some none, some none, some none, some none, some none, some none, some none, some none, some none, some none, some none, some none, some none, some none, some none, some none, some none, some none, some none, some none, some none, some none, some none, some none, some none, some none, some none, some none, some none, some none, some none, some none, some none, some none, some none, some none, some none, some none, some none, none, none, none, none, none, none, none, none, none, none, none, none, none, none, none, none, none, none, none, none, none, none, none, none, none, none, none, none, none, none, none, none, none, none, none, none, none, none, none, none, none, none, none, none] (fun nn tx ty wx => ∃ (c : Nat) (fd : Bool), c ≤ l.length ∧ nn = l.length - c ∧ tx = .int .i64 c ∧ ty = .bool fd ∧ Upd [bW] WQ wx ∧ WS hs F bW s c 0 fd wx) l.length (.int .i64 0) (.bool fd) rfl ⟨0, fd, by omega, by omega, rfl, rfl, UX.out, XS.out⟩ ?_
    intro n7 uv x7 y7 wy J7 K7 hrel hJ7 hK7
    obtain ⟨k, fe, hk1, rfl, rfl, rfl, h5, h6⟩ := hrel
    have HJ7 : Hid _ := hJ7
    have UY : Hid (Upd [bW] WQ wy) := h5
    have YS : Hid (WS hs F bW s k 0 fe wy) := h6
    clear hJ7 h5 h6 UX XS
    dsimp only [fillC, Nat.reduceAdd]
    by_cases hltk : k < l.length
    · as_aux_lemma =>
      obtain ⟨t, ht⟩ := has_at l hltk
      have T3 : Hid (l[k]? = some t) := ht
      have ho1 : o1 = some ⟨R.ses s, 0, none⟩ := C2.out (by intro h; rw [h] at hltk; simp at hltk)
      subst ho1
      obtain ⟨o2, c3, c4⟩ := (HWB.out wy UY.out).base.evs s l k t L3.out ht
      have c5 := (HWB.out wy UY.out).base.com s l k t L3.out ht
      have C4 : Hid (t.evs ≠ [] → o2 = some ⟨R.evs s k, 0, none⟩) := c4
      have htl := OH.out.small3 l (List.mem_of_getElem? L3.out) t (List.mem_of_getElem? ht)
      clear c4 ht
      by_cases hsk : fe = true ∨ t.com = false
      · have gd : ∀ z : World, True := fun _ => trivial
        have YN : Hid (WS hs F bW s (k + 1) 0 fe (wy.alloc (.cells #[.slice o2 t.evs.length (R.ec s k), .bool t.com] 39))) := by
          rcases YS.out with ⟨h1, h2, h3⟩ | ⟨h1, s0, k0, e0, q, h2, h3, h4⟩
          · rcases hsk with h | h
            · rw [h1] at h; cases h
            · exact .inl ⟨h1, h2.skip L3.out T3.out h, h3.keep (Upd.alloc [] _ _) (by simp)⟩
          · exact .inr ⟨h1, s0, k0, e0, q, h2, h3, h4.keep (Upd.alloc [] _ _) (by simp)⟩
        cases hfe : fe with
        | true =>
          as_aux_lemma =>
          rw [hfe] at YN
          clear hsk
          go_wp2_with fail
          refine Met.intro ?_
          refine HJ7.out _ _ ?_
          refine EndC.of (l.length - (k + 1)) (.int .i64 (((k : Int) + 1) : Int)) (.bool true) ?_ (by omega) ?_
          · rfl
          exact ⟨k + 1, true, by omega, rfl, by go_num, rfl, UY.out.trans (Upd.alloc [] _ _) (by simp), YN.out⟩
        | false =>
          as_aux_lemma =>
          have hcm : t.com = false := by rcases hsk with h | h; rw [hfe] at h; cases h; exact h
          rw [hcm] at c5 YN
          rw [hfe] at YN
          clear hsk hcm
          go_wp2_with fail
          refine Met.intro ?_
          refine HJ7.out _ _ ?_
          refine EndC.of (l.length - (k + 1)) (.int .i64 (((k : Int) + 1) : Int)) (.bool false) ?_ (by omega) ?_
          · rfl
          exact ⟨k + 1, false, by omega, rfl, by go_num, rfl, UY.out.trans (Upd.alloc [] _ _) (by simp), YN.out⟩
      · as_aux_lemma =>
        have hfe : fe = false := by cases h : fe; rfl; exact absurd (.inl h) hsk
        have hcm : t.com = true := by cases h : t.com; exact absurd (.inr h) hsk; rfl
        have CM : Hid (Cm hs s k) := ⟨l, t, L3.out, T3.out, hcm⟩
        rw [hcm] at c5
        subst hfe
        clear hsk
        go_upto_region 61 with fail
        obtain ⟨b29, hb29⟩ : ∃ z, z = wy.heap.size := ⟨_, rfl⟩
        obtain ⟨W1, hW1⟩ : ∃ z : World, z = wy.alloc (.cells #[.slice o2 t.evs.length (R.ec s k), .bool true] 39) := ⟨_, rfl⟩
        have U1 : Hid (Upd [bW] WQ W1) := by show Upd _ _ _; rw [hW1]; exact UY.out.trans (Upd.alloc [] _ _) (by simp)
        have x0 : W1.cell? ⟨b29, 0, none⟩ = some (.slice o2 t.evs.length (R.ec s k)) := by rw [hW1, hb29]; exact (Blk.new wy #[.slice o2 t.evs.length (R.ec s k), .bool true] 39).cell 0
        have S1 : Hid (WS hs F bW s k 0 false W1) := by show WS _ _ _ _ _ _ _ _; rw [hW1]; exact YS.out.keep (Upd.alloc [] _ _) (fun h => h)
        rw [← hW1, ← hb29]
        clear hW1 hb29 c3 c5 hcm
        go_wp2_with fail
        clear x0
        refine wp_loopC [none, none, none, none, none, none, none, none, none, none, none, none, none, none, none, none, none, none, none, none, none, none, none, none, some (some true), none, none, none, none, none, some none, some none, some none, none, none, none, none, none, none, none, none, none, none, none, none, none, none, none, none, none, none, none, none, none, none, none, none, none, none, none, none, none, none, none, none, none, none, none, none, none, none, none, none, none, none, none, none, none, none, none, none, none, none, none, none, none, none, none, none, none, none, none, none, none, none, none, none, none, none, none, none, none, none, none, none, none, none, none, none, none, none, none, none, none, none, none, none, none, none, none, none, none, none, none, none, none, none, none, none, none, none, none, none, none, none, none, none, none, none, none, none, none, none, none, none, none, none, none, none, none, none, none, none, none, none, none, none, none, none, none, none, none, none, none, none, none, none, none, none, none, none, none, none, none, none, none, none, none, none, none, none, none, none, none, none, none, none, none, none, none, none, none, none, none, none, none, none, none, none, none, none, none, none, none, none, none, none, none, none, none, none, none, none, none, none, none, none, none, none, none, none, none, none, none, none, none, none, none, none, none, none, none, none, none, none, none, none, none, none, none, none, some (some false), some none, some none, some none, some none, some none, some none, some none, some none, some none, some none, some none, some none, some none, some none, some none, some none, some none, some none, some none, some none, some none, some none, some none, some none, some none, some none, some none, some none, some none, some none, some none, some none, some none, some none, some none, some none, some none, some none, some none, some none, some none, none, none, none, none, none, none, none, none, none, none, none, none, none, none, none, none, none, none, none, none, none, none, none, none, none, none, none, none, none, none, none, none, none, none, none, none, none, none, none, none, none, none, none, none, none] (fun nn tx ty wx => ∃ (c : Nat) (fd : Bool), c ≤ t.evs.length ∧ nn = t.evs.length - c ∧ tx = .int .i64 c ∧ ty = .bool fd ∧ Upd [bW] WQ wx ∧ WS hs F bW s k c fd wx) t.evs.length (.int .i64 0) (.bool false) rfl ⟨0, false, by omega, by omega, rfl, rfl, U1.out, S1.out⟩ ?_
        intro n8 uw x8 y8 wz J8 K8 hrel hJ8 hK8
        obtain ⟨e, ff, he1, rfl, rfl, rfl, h5, h6⟩ := hrel
        have HJ8 : Hid _ := hJ8
        have UZ : Hid (Upd [bW] WQ wz) := h5
        have ZS : Hid (WS hs F bW s k e ff wz) := h6
        clear hJ8 h5 h6 U1 S1 UY YS
        dsimp only [fillC, Nat.reduceAdd]
        by_cases hlte : e < t.evs.length
        · as_aux_lemma =>
          obtain ⟨v, hv⟩ := has_at t.evs hlte
          have ho2 : o2 = some ⟨R.evs s k, 0, none⟩ := C4.out (by intro h; rw [h] at hlte; simp at hlte)
          subst ho2
          have HW := HWB.out wz UZ.out
          have a0 := HW.ev s l k t e v 0 _ L3.out T3.out hv rfl
          have a1 := HW.ev s l k t e v 1 _ L3.out T3.out hv rfl
          have a2 := HW.ev s l k t e v 2 _ L3.out T3.out hv rfl
          have a3 := HW.ev s l k t e v 3 _ L3.out T3.out hv rfl
          simp only [Nat.add_zero] at a0
          have hat : At hs s k e v := ⟨l, t, L3.out, T3.out, hv⟩
          have hkd := OH.out.kind _ _ _ _ hat
          clear HW hv
          by_cases hsk : ff = true ∨ v.k = 1 ∨ v.i = true
          · have ZN : Hid (WS hs F bW s k (e + 1) ff (wz.alloc (.cells #[.int .u8 v.k, .int .u64 v.x, .int .u64 v.v, .bool v.i] 37))) := by
              rcases ZS.out with ⟨h1, h2, h3⟩ | ⟨h1, s0, k0, e0, q, h2, h3, h4⟩
              · refine .inl ⟨h1, h2.step (fun q' ⟨v', g1, _, g3, g4, _⟩ => ?_), h3.keep (Upd.alloc [] _ _) (by simp)⟩
                have := g1.same hat
                subst this
                rcases hsk with h | h | h
                · rw [h1] at h; cases h
                · omega
                · rw [g4] at h; cases h
              · exact .inr ⟨h1, s0, k0, e0, q, h2, h3, h4.keep (Upd.alloc [] _ _) (by simp)⟩
            cases hff : ff with
            | true =>
              as_aux_lemma =>
              rw [hff] at ZN
              clear hsk hat hkd
              go_wp2_with fail
              refine Met.intro ?_
              refine HJ8.out _ _ ?_
              refine EndC.of (t.evs.length - (e + 1)) (.int .i64 (((e : Int) + 1) : Int)) (.bool true) ?_ (by omega) ?_
              · rfl
              exact ⟨e + 1, true, by omega, rfl, by go_num, rfl, UZ.out.trans (Upd.alloc [] _ _) (by simp), ZN.out⟩
            | false =>
              rw [hff] at ZN
              rcases hkd with hk | hk
              · as_aux_lemma =>
                have hvi : v.i = true := by rcases hsk with h | h | h; rw [hff] at h; cases h; omega; exact h
                rw [hk, hvi] at ZN
                rw [hk] at a0
                rw [hvi] at a3
                clear hsk hat hk hvi
                go_wp2_with fail
                refine Met.intro ?_
                refine HJ8.out _ _ ?_
                refine EndC.of (t.evs.length - (e + 1)) (.int .i64 (((e : Int) + 1) : Int)) (.bool false) ?_ (by omega) ?_
                · rfl
                exact ⟨e + 1, false, by omega, rfl, by go_num, rfl, UZ.out.trans (Upd.alloc [] _ _) (by simp), ZN.out⟩
              · as_aux_lemma =>
                rw [hk] at ZN a0
                clear hsk hat hk
                go_wp2_with fail
                refine Met.intro ?_
                refine HJ8.out _ _ ?_
                refine EndC.of (t.evs.length - (e + 1)) (.int .i64 (((e : Int) + 1) : Int)) (.bool false) ?_ (by omega) ?_
                · rfl
                exact ⟨e + 1, false, by omega, rfl, by go_num, rfl, UZ.out.trans (Upd.alloc [] _ _) (by simp), ZN.out⟩
          · as_aux_lemma =>
            have hff : ff = false := by cases h : ff; rfl; exact absurd (.inl h) hsk
            have hk : v.k = 0 := by rcases hkd with h | h; exact h; exact absurd (.inr (.inl h)) hsk
            have hvi : v.i = false := by cases h : v.i; rfl; exact absurd (.inr (.inr h)) hsk
            subst hff
            rw [hk] at a0
            rw [hvi] at a3
            obtain ⟨q, x, g1, g2, g3, g4, g5⟩ := WH.out.read OH.out hat hk hvi
            have hzs : ∃ z ∈ ws, z.v = v.v ∧ z.s = q.s ∧ z.k = q.k ∧ z.e = q.e := by
              have hb : Bef hs.length 0 0 q.s q.k q.e := by
                obtain ⟨l9, t9, y1, _⟩ := id g2
                have := (List.getElem?_eq_some_iff.mp y1).1
                unfold Bef; omega
              obtain ⟨z, z1, z2, z3⟩ := MH.out.bwd _ _ _ x g2 hb g3
              exact ⟨z, z1, by rw [z2, g4], z3⟩
            obtain ⟨l9, t9, y1, y2, y3⟩ := g2
            have hqs : q.s < hs.length := (List.getElem?_eq_some_iff.mp y1).1
            have hqk : q.k < l9.length := (List.getElem?_eq_some_iff.mp y2).1
            have hq9 : q.k < 1000 := by have := OH.out.small2 l9 (List.mem_of_getElem? y1); omega
            have Y1 : Hid (hs[q.s]? = some l9) := y1
            have Y2 : Hid (l9[q.k]? = some t9) := y2
            have RG : Hid (t9.com = true → RC hs F s k e → RC hs F s k (e + 1)) := fun hcq hr => hr.step (fun q' ⟨v', h1, _, _, _, h5, h6⟩ => by
              have := h1.same hat; subst this
              rw [g1] at h5; injection h5 with h5; subst h5
              exact h6 ⟨l9, t9, y1, y2, hcq⟩)
            have RBx : Hid (t9.com = false → Unc hs F s k e q) := fun hcq => ⟨v, hat, CM.out, hk, hvi, g1, fun ⟨l8, t8, c1, c2, c3⟩ => by
              rw [y1] at c1; injection c1 with c1; subst c1
              rw [y2] at c2; injection c2 with c2; subst c2
              rw [hcq] at c3; cases c3⟩
            have HZS : Hid (∃ z ∈ ws, z.v = v.v ∧ z.s = q.s ∧ z.k = q.k ∧ z.e = q.e) := hzs
            have hkv : Hid (v.k = 0 ∧ v.i = false) := ⟨hk, hvi⟩
            clear hsk hat hkd hk hvi g1 g3 g4 g5 y1 y2 y3 hzs
            go_upto_region 65 with fail
            obtain ⟨b31, hb31⟩ : ∃ z, z = wz.heap.size := ⟨_, rfl⟩
            obtain ⟨W6, hW6⟩ : ∃ z : World, z = wz.alloc (.cells #[.int .u8 0, .int .u64 v.x, .int .u64 v.v, .bool false] 37) := ⟨_, rfl⟩
            have U6 : Upd [] wz W6 := by rw [hW6]; exact Upd.alloc _ _ _
            have e2 : W6.cell? ⟨b31, 2, none⟩ = some (.int .u64 v.v) := by rw [hW6, hb31]; exact (Blk.new wz #[.int .u8 0, .int .u64 v.x, .int .u64 v.v, .bool false] 37).cell 2
            have K9 : Hid _ := find9 W6 sa sc fp ws ((SWH.out.keep UZ.out (fun q hq hm => by simp at hm; subst hm; exact n3 hq)).keep U6 (by simp)) v.v (by omega)
            have U6H : Hid (Upd [] wz W6) := U6
            rw [← hW6, ← hb31]
            clear a0 a1 a2 a3 hW6 hb31 U6
            go_wp2_with fail
            refine Calls.mono K9.out ?_
            rintro e' w9 ⟨hw9, i9, rfl, hfnd⟩
            subst hw9
            obtain ⟨kz, z, hi9, hz, hzv⟩ : ∃ (k : Nat) (z : Wz), i9 = (k : Int) ∧ ws[k]? = some z ∧ z.v = v.v := by
              rcases hfnd with ⟨_, hno⟩ | h
              · exfalso
                obtain ⟨z, z1, z2, _⟩ := HZS.out
                exact hno z z1 z2
              · exact h
            subst hi9
            obtain ⟨z', z1, z2, z3, z4, z5⟩ := HZS.out
            have hzz : z = z' := by
              obtain ⟨j, hj⟩ := List.getElem?_of_mem z1
              have e1 : (ws.map Wz.v)[kz]? = some v.v := by simp [hz, hzv]
              have e2 : (ws.map Wz.v)[j]? = some v.v := by simp [hj, z2]
              have := (List.getElem?_inj (List.getElem?_eq_some_iff.mp e1).1 MH.out.nd).mp (e1.trans e2.symm)
              subst this
              rw [hz] at hj; injection hj
            subst hzz
            obtain ⟨bZ, ea, hbZ, f0, f1, f2⟩ := Wz.look (SWH.out.keep UZ.out (fun q hq hm => by simp at hm; subst hm; exact n3 hq)) hz
            subst ea
            have f0 : w9.cell? ⟨bZ, kz * 5 + 2, none⟩ = some (.int .i64 q.s) := by rw [← z3]; exact U6H.out.cell f0 (by simp)
            have f1 : w9.cell? ⟨bZ, kz * 5 + 3, none⟩ = some (.int .i64 q.k) := by rw [← z4]; exact U6H.out.cell f1 (by simp)
            have f2 : w9.cell? ⟨bZ, kz * 5 + 4, none⟩ = some (.int .i64 q.e) := by rw [← z5]; exact U6H.out.cell f2 (by simp)
            have hkz : kz < ws.length := (List.getElem?_eq_some_iff.mp hz).1
            clear hfnd hz hzv z1 z2 z3 z4 z5 K9 e2
            go_upto_region 66 with fail
            obtain ⟨b32, hb32⟩ : ∃ z, z = w9.heap.size := ⟨_, rfl⟩
            obtain ⟨Wn, hWn⟩ : ∃ z : World, z = w9.alloc (.cells #[.int .i64 q.s, .int .i64 q.k, .int .i64 q.e] 56) := ⟨_, rfl⟩
            have k1 : Blk Wn b32 56 #[.int .i64 q.s, .int .i64 q.k, .int .i64 q.e] := by rw [hWn, hb32]; exact Blk.new _ _ _
            have UN : Upd [] wz Wn := by rw [hWn]; exact U6H.out.trans (Upd.alloc [] _ _) (by simp)
            rw [← hWn, ← hb32]
            have m0 : Wn.cell? ⟨b32, 0, none⟩ = some (.int .i64 q.s) := k1.cell 0
            have m1 : Wn.cell? ⟨b32, 1, none⟩ = some (.int .i64 q.k) := k1.cell 1
            have m2 : Wn.cell? ⟨b32, 2, none⟩ = some (.int .i64 q.e) := k1.cell 2
            have UZN : Upd [bW] WQ Wn := UZ.out.trans UN (by simp)
            have bx : Wn.cell? ⟨bH, 0, none⟩ = some (.slice (some ⟨R.top, 0, none⟩) hs.length cap) := UZN.cell CH.out (by simpa using n2)
            obtain ⟨o9, d1, d2⟩ := (HWB.out Wn UZN).base.ses q.s l9 Y1.out
            have ho9 : o9 = some ⟨R.ses q.s, 0, none⟩ := d2 (by intro h; rw [h] at hqk; simp at hqk)
            subst ho9
            have d3 := (HWB.out Wn UZN).base.com q.s l9 q.k t9 Y1.out Y2.out
            have UNH : Hid (Upd [bW] WQ Wn) := UZN
            have ZN : Hid (WS hs F bW s k e false Wn) := ZS.out.keep UN (fun h => h)
            clear hWn hb32 k1 UN UZN d2 f0 f1 f2
            cases hcq : t9.com with
            | true =>
              as_aux_lemma =>
              rw [hcq] at d3
              have ZM : Hid (∀ n, WS hs F bW s k (e + 1) false (Wn.drewN n)) := fun n => ZN.out.keep (Upd.drewN [] _ _) (RG.out hcq)
              clear hcq
              go_big_quiet (fail)
              go_wp2_with fail
              refine Met.intro ?_
              refine HJ8.out _ _ ?_
              refine EndC.of (t.evs.length - (e + 1)) (.int .i64 (((e : Int) + 1) : Int)) (.bool false) ?_ (by omega) ?_
              · rfl
              exact ⟨e + 1, false, by omega, rfl, by go_num, rfl, UNH.out.trans (Upd.drewN [] _ _) (by simp), ZM.out _⟩
            | false =>
              as_aux_lemma =>
              rw [hcq] at d3
              have UB : Hid (Unc hs F s k e q) := RBx.out hcq
              clear hcq
              go_big_quiet (fail)
              obtain ⟨W7, hW7⟩ : ∃ z : World, z = Wn.drewN nq := ⟨_, rfl⟩
              have U7 : Upd [] Wn W7 := by rw [hW7]; exact Upd.drewN [] _ _
              have n0' : W7.cell? ⟨b32, 0, none⟩ = some (.int .i64 q.s) := U7.cell m0 (by simp)
              have n1' : W7.cell? ⟨b32, 1, none⟩ = some (.int .i64 q.k) := U7.cell m1 (by simp)
              have n2' : W7.cell? ⟨b32, 2, none⟩ = some (.int .i64 q.e) := U7.cell m2 (by simp)
              have HK7 : RC hs F s k e ∧ Blk W7 bW 59 #[.int .i64 0, .int .i64 0, .int .i64 0, .int .u8 0, .int .i64 0, .int .i64 0, .int .i64 0] := by
                rcases ZN.out with ⟨_, h2, h3⟩ | ⟨h1, _⟩
                · exact ⟨h2, h3.keep U7 (by simp)⟩
                · cases h1
              have RC7 : Hid (RC hs F s k e) := HK7.1
              have KW7 : Hid (Blk W7 bW 59 #[.int .i64 0, .int .i64 0, .int .i64 0, .int .u8 0, .int .i64 0, .int .i64 0, .int .i64 0]) := HK7.2
              have U7H : Hid (Upd [bW] WQ W7) := UNH.out.trans U7 (by simp)
              rw [← hW7]
              clear hW7 m0 m1 m2 bx d1 d3 U7 HK7
              go_wp2_with (refine wpList_store_row rfl 59 (.tmp 25) (.tmp 281) rfl bW _ rfl rfl 59 _ KW7.out hi59 rfl (by simp [Value.oneCell']) ?_)
              refine Met.intro ?_
              refine HJ8.out _ _ ?_
              refine EndC.of (t.evs.length - (e + 1)) (.int .i64 (((e : Int) + 1) : Int)) (.bool true) ?_ (by omega) ?_
              · rfl
              exact ⟨e + 1, true, by omega, rfl, by go_num, rfl, U7H.out.trans (updRow _ _ _) (by simp), .inr ⟨rfl, s, k, e, q, UB.out, RC7.out, setRow_heap _ _ _ _ 59 (0, 0) KW7.out⟩⟩
        · as_aux_lemma =>
          have he2 : e = t.evs.length := by omega
          have ZN : Hid (WS hs F bW s (k + 1) 0 ff wz) := ZS.out.keep (Upd.refl _ _) (fun h => by rw [he2] at h; exact h.nextTxn L3.out T3.out)
          clear he2
          go_wp2_with fail
          refine Met.intro ?_
          refine HJ7.out _ _ ?_
          refine EndC.of (l.length - (k + 1)) (.int .i64 (((k : Int) + 1) : Int)) (.bool ff) ?_ (by omega) ?_
          · rfl
          exact ⟨k + 1, ff, by omega, rfl, by go_num, rfl, UZ.out, ZN.out⟩
    · as_aux_lemma =>
      have hk2 : k = l.length := by omega
      have YN : Hid (WS hs F bW (s + 1) 0 0 fe wy) := YS.out.keep (Upd.refl _ _) (fun h => by rw [hk2] at h; exact h.nextSes L3.out)
      clear hk2
      go_wp2_with fail
      refine Met.intro ?_
      refine HJ6.out _ _ ?_
      refine EndC.of (hs.length - (s + 1)) (.int .i64 (((s : Int) + 1) : Int)) (.bool fe) ?_ (by omega) ?_
      · rfl
      exact ⟨s + 1, fe, by omega, rfl, by go_num, rfl, UY.out, YN.out⟩
  · as_aux_lemma =>
    have hs2 : s = hs.length := by omega
    have XE : Hid (WS hs F bW hs.length 0 0 fd wx) := by have := XS.out; rw [hs2] at this; exact this
    have kVx : Blk wx bV 47 #[.slice vA.a vA.n vA.c, .slice vB.a vB.n vB.c, .bool ser, .slice vO.a vO.n vO.c, .pointer mp, .slice vC.a vC.n vC.c, .slice vR.a vR.n vR.c, .slice vK.a vK.n vK.c] := KV.out.keep UX.out (by simpa using n1)
    have d2 : wx.cell? ⟨bV, 2, none⟩ = some (.bool ser) := kVx.cell 2
    have d3 : wx.cell? ⟨bV, 3, none⟩ = some (.slice vO.a vO.n vO.c) := kVx.cell 3
    have d4 : wx.cell? ⟨bV, 4, none⟩ = some (.pointer mp) := kVx.cell 4
    have d5 : wx.cell? ⟨bV, 5, none⟩ = some (.slice vC.a vC.n vC.c) := kVx.cell 5
    have d7 : wx.cell? ⟨bV, 7, none⟩ = some (.slice vK.a vK.n vK.c) := kVx.cell 7
    have chx : wx.cell? ⟨bH, 0, none⟩ = some (.slice ta hs.length cap) := UX.out.cell CH.out (by simpa using n2)
    have BX : Hid (Below w.heap.size w wx) := BB.out.trans (UX.out.below BB.out.size (by simpa using hgW))
    clear hs2 kVx
    go_upto_region 72 with fail
    rcases VH.out with ⟨bM, ra, rb, rc, rf, ra', rb', rc', rfl, rfl, kM, hMW, hD⟩ | ⟨rfl, rfl, hR⟩ | ⟨rfl, rfl, hR, rfl, rfl, K10⟩
    · rcases hD with ⟨s0, k0, e0, q, hU, hRc, rfl, rfl, rfl, rfl, rfl, rfl, rfl⟩ | hR
      · as_aux_lemma =>
        rcases XE.out with ⟨_, h2, _⟩ | ⟨rfl, s1, k1, e1, q1, h2, h3, h4⟩
        · exact (hU.notAll h2).elim
        obtain ⟨rfl, rfl, rfl, rfl⟩ := hU.same hRc h2 h3
        have kMx := kM.keep UX.out (by simpa using hMW)
        have m0 : wx.cell? ⟨bM, 0, none⟩ = some (.int .i64 s0) := kMx.cell 0
        have m1 : wx.cell? ⟨bM, 1, none⟩ = some (.int .i64 k0) := kMx.cell 1
        have m2 : wx.cell? ⟨bM, 2, none⟩ = some (.int .i64 e0) := kMx.cell 2
        have m3 : wx.cell? ⟨bM, 3, none⟩ = some (.int .u8 0) := kMx.cell 3
        have m4 : wx.cell? ⟨bM, 4, none⟩ = some (.int .i64 q.s) := kMx.cell 4
        have m5 : wx.cell? ⟨bM, 5, none⟩ = some (.int .i64 q.k) := kMx.cell 5
        have m6 : wx.cell? ⟨bM, 6, none⟩ = some (.int .i64 q.e) := kMx.cell 6
        have p0 : wx.cell? ⟨bW, 0, none⟩ = some (.int .i64 s0) := h4.cell 0
        have p1 : wx.cell? ⟨bW, 1, none⟩ = some (.int .i64 k0) := h4.cell 1
        have p2 : wx.cell? ⟨bW, 2, none⟩ = some (.int .i64 e0) := h4.cell 2
        have p3 : wx.cell? ⟨bW, 3, none⟩ = some (.int .u8 0) := h4.cell 3
        have p4 : wx.cell? ⟨bW, 4, none⟩ = some (.int .i64 q.s) := h4.cell 4
        have p5 : wx.cell? ⟨bW, 5, none⟩ = some (.int .i64 q.k) := h4.cell 5
        have p6 : wx.cell? ⟨bW, 6, none⟩ = some (.int .i64 q.e) := h4.cell 6
        clear kM kMx h2 h3 h4 hU hRc
        go_big_quiet (fail)
        go_wp2_with fail
        go_ret
        exact ⟨rfl, BX.out.trans ((Upd.drewN [] _ _).below BX.out.size (by simp))⟩
      · as_aux_lemma =>
        rcases XE.out with ⟨rfl, _, _⟩ | ⟨_, s1, k1, e1, q1, h2, _⟩
        case inr => exact (h2.notAll hR).elim
        clear kM
        go_big_quiet (fail)
        go_wp2_with fail
        go_ret
        exact ⟨rfl, BX.out.trans ((Upd.drewN [] _ _).below BX.out.size (by simp))⟩
    · as_aux_lemma =>
      rcases XE.out with ⟨rfl, _, _⟩ | ⟨_, s1, k1, e1, q1, h2, _⟩
      case inr => exact (h2.notAll hR).elim
      go_big_quiet (fail)
      go_wp2_with fail
      go_ret
      exact ⟨rfl, BX.out.trans ((Upd.drewN [] _ _).below BX.out.size (by simp))⟩
    · as_aux_lemma =>
      rcases XE.out with ⟨rfl, _, _⟩ | ⟨_, s1, k1, e1, q1, h2, _⟩
      case inr => exact (h2.notAll hR).elim
      have KT : Hid (∀ w1, Upd [bW] WQ w1 → Calls Ybaz.prog 10 #[.agg #[.slice ta hs.length cap], .slice vO.a vO.n vO.c] w1 (fun e w' => e = .returned (.bool true) ∧ Below w1.heap.size w1 w')) := K10
      have q43n : ∀ (w : World) (a : Option Addr) (n c n' c' : Nat), (binOp .eql 43 (.slice a n c) (.slice none n' c')).run Ybaz.prog w = .ok (.bool a.isNone) w := fun w a n c n' c' => Lib.run_eql_slice_nil w _ _ a n c n' c' Ybaz.underlying43
      clear K10 hR
      go_big_quiet (fail)
      obtain ⟨W7, hW7⟩ : ∃ z : World, z = wx.drewN nq := ⟨_, rfl⟩
      have U7 : Upd [] wx W7 := by rw [hW7]; exact Upd.drewN [] _ _
      have K7 : Hid _ := KT.out W7 (UX.out.trans U7 (by simp))
      have B7 : Hid (Below w.heap.size w W7) := BX.out.trans (U7.below BX.out.size (by simp))
      have d2 := U7.cell d2 (by simp)
      have d3 := U7.cell d3 (by simp)
      have d4 := U7.cell d4 (by simp)
      have d5 := U7.cell d5 (by simp)
      have d7 := U7.cell d7 (by simp)
      have chx := U7.cell chx (by simp)
      rw [← hW7]
      clear hW7 U7
      go_wp2_with fail
      refine Calls.mono K7.out ?_
      rintro e' w8 ⟨rfl, B8⟩
      go_wp2_with fail
      go_ret
      exact ⟨rfl, B7.out.trans (B8.mono B7.out.size)⟩
end Go.Proofs.YbulkctquGreatFmt

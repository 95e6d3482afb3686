/-
  newSessionPolygraph: one node.
-/
import Derived.Test.YbulkctquGreatFmtNspM
import Derived.Test.YbulkctquGreatFmtFlh
import Derived.Test.YbulkctquGreatFmtLex
import Derived.Deep.RegionHeld3
import Derived.Test.YbulkctquGreatFmtNspN
import Derived.Deep.RegionWith
import Derived.BigQuiet
import Derived.Deep.DeepCutAuto
namespace Go.Proofs.YbulkctquGreatFmt
open Go.ChangeShapes Go.WideShapes Go.ChangeAt Go.RowKit Go.Ord
set_option linter.unusedVariables false
attribute [-go_sem] Go.Builtin.append_ Go.Instr.buildSlice
set_option maxHeartbeats 16000000 in
set_option maxRecDepth 100000 in
theorem nd11 {u0 u3 u4 u5 u6 u7 u8 u9 u10 u11 u12 u13 u14 u16 u17 u19 u21 u22 u23 u27 u28 u29 u30 u31 u32 u33 u34 u35 u36 u37 u38 u39 u40 u41 u42 u43 u44 u45 u46 u47 u48 u49 u50 u51 u52 u53 u54 u55 u56 u57 u58 u59 u60 u61 u62 u63 u64 u65 u66 u67 u68 u69 u70 u71 u72 u73 u74 u75 u76 u77 u78 u79 u80 u81 u82 u83 u84 u85 u86 u87 u88 u89 u90 u91 u92 u93 u94 u95 u96 u97 u98 u99 u100 u101 u102 u103 u104 u105 u106 u107 u108 u109 u110 u111 u112 u113 u114 u115 u116 u117 u118 u119 u120 u121 u122 u123 u124 u125 u126 u127 u128 u129 u130 u131 u132 u133 u134 u135 u136 u137 u138 u139 u140 u141 u142 u143 u144 u145 u146 u147 u148 u149 u150 u151 u152 u153 u154 u155 u156 u157 u158 u159 u160 u161 u162 u163 u164 u165 u166 u167 u168 u169 u170 u171 u172 u173 u174 u175 u176 u177 u178 u179 u180 u181 u182 u183 u184 u185 u186 u187 u188 u189 u190 u192 u194 u195 u196 u197 u198 u199 u200 u201 u202 u203 u204 u205 u206 u207 u208 u209 u210 u211 u212 u213 u214 u215 u216 u217 u218 u219 u220 u221 u222 u223 u224 u225 u226 u227 u228 u229 u230 u231 u232 u233 u234 u235 u236 u237 u238 u239 u240 u241 u242 u243 u244 u245 u246 u247 u248 u249 u250 u251 u252 u253 u254 u255 u256 u257 u258 u259 u260 u261 u262 u263 u264 u265 u266 u267 u268 u269 u270 u271 u272 u273 u274 u275 u276 u277 u278 u279 u280 u281 u282 u283 u284 u285 u286 u287 u288 u289 u290 u291 u292 u293 u294 u295 u296 u297 u298 u299 u300 u301 u302 u303 u304 u305 u306 u307 u308 u309 u310 u311 u312 u313 u314 u315 u316 u317 u318 u319 u320 u321 u322 u323 u324 u325 u326 u327 u328 u329 u330 u331 u332 u333 u334 u335 u336 u337 u338 u339 u340 u341 u342 u343 u344 u345 u346 u347 u348 u349 u350 u351 u352 u353 u354 u355 u356 u357 u358 u359 u360 u361 u362 u363 u364 u365 u366 u367 u368 u369 u370 u371 u372 u373 u374 u375 u376 u377 u378 u379 u380 u381 u382 u383 u384 u385 u386 u387 u388 u389 u390 u391 u392 u393 u394 u395 u396 u397 u398 u399 u400 u401 u402 u403 u404 u405 u406 u407 u408 u409 u410 u411 u412 u413 u414 u415 u416 u417 u418 u419 u420 u421 u422 u423 u424 u425 u426 u427 u428 u429 u430 u431 u432 u433 u434 u435 u436 u437 u438 u439 u440 u441 u442 u443 u444 u445 u446 u447 u448 u449 u450 u451 u452 u453 u454 u455 u456 u457 u458 u459 u460 u461 u462 u463 u464 u465 u466 u467 u468 u469 u470 u471 u472 u473 u474 u475 u476 u477 u478 u479 u480 u481 u482 u483 u484 u485 u486 u487 u488 u489 u490 u491 u492 u493 u494 u495 u496 u497 u498 u499 u500 u501 u502 u503 u504 u505 u506 : Value} (w : World) (R : HR) (hs : List (List Tx)) (cap : Nat) (A : List Rk) (fC : List Nat) (nV : Nat) (fV : List Nat) (bF : Nat) (zs : List Nat) (bN : Nat) (NS : List (List UInt8)) (J0 : List Bool) (TX : List (Nat × Nat)) (NM : Nat × Nat → Option Nat) (bO : Nat) (F : Nat → Option Wr) (b : Nat) (H : HistE w R hs) (O : HOk hs) (W : WF hs F) (RO : ROk hs) (MF0 : MapAt w (ik .u64) b (fun v => (F v).map Wr.val)) (hA : A = rksAll 0 hs) (h12 : A.length ≤ 12) (hp : zs.Perm (List.range A.length)) (nmi : NMI A zs A.length NM) (hvb : ∀ s k e x, At hs s k e x → x.v < 900 ∧ x.x < 900) (hV : nV ≤ 10000) (htx : TX = txsAt A zs A.length) (g : GG) (G : List (List Nat)) (sg : SG) (ss : List Sr) (og : OG) (os : List Ob) (om sm : Nat → Option Nat) (T vars vers : List Nat) (v : Nat) (hv : v < A.length) (wr : World) (hP : Pcs w wr (LE w R.top hs.length cap A fC nV fV bF zs bN NS g G J0 sg ss og os TX NM bO om sm T)) (hE : EI hs F A zs NM v 0 om sm vars vers os ss G (v * 4000)) (hRN : ∀ s ∈ ss, s.rd ≠ []) (J K' : Act → World → Prop) (Q' : Exit → Act → World → Prop)
    (hJ : ∀ a' w', MeetC [none, none, none, none, none, none, none, none, none, none, none, none, none, none, none, none, none, none, none, none, none, none, none, none, none, none, none, some none, some none, none, some none, some none, some none, some none, some none, some none, some none, some none, some none, none, none, none, none, none, none, none, none, none, none, none, none, none, none, none, none, none, none, none, none, none, none, none, none, none, none, none, none, none, none, none, none, none, none, none, none, none, none, none, none, none, none, none, none, none, none, none, none, none, none, none, none, none, none, none, none, none, none, none, none, none, none, none, none, none, none, none, none, none, none, none, none, none, none, none, none, none, none, none, none, none, none, none, none, none, none, none, none, none, none, none, none, none, none, none, none, none, none, none, none, none, none, none, none, none, none, none, none, none, none, none, none, none, none, none, none, none, none, none, none, none, none, none, none, none, none, none, none, none, none, none, none, none, none, none, none, none, none, none, none, none, none, none, none, none, none, none, none, none, none, none, none, none, none, none, none, some none, some none, some none, some none, some none, some none, some none, some none, some none, some none, some none, some none, some none, some none, some none, some none, some none, some none, some none, some none, some none, some none, some none, some none, some none, some none, some none, some none, some none, some none, some none, some none, some none, some none, some none, some none, some none, some none, some none, some none, some none, some none, some none, some none, some none, some none, some none, some none, some none, some none, some none, some none, some none, some none, some none, some none, some none, some none, some none, some none, some none, some none, some none, some none, some none, some none, some none, some none, some none, some none, some none, some none, some none, some none, some none, some none, some none, some none, some none, some none, some none, some none, some none, some none, some none, some none, some none, some none, some none, some none, some none, some none, some none, some none, some none, some none, some none, some none, some none, some none, some none, some none, some none, some none, some none, some none, some none, some none, some none, some none, some none, some none, some none, some none, some none, some none, some none, some none, some none, some none, some none, some none, some none, some none, some none, some none, some none, some none, some none, some none, some none, some none, some none, some none, some none, some none, some none, some none, some none, some none, some none, some none, some none, some none, some none, some none, some none, some none, some none, some none, some none, some none, some none, some none, some none, some none, some none, some none, some none, some none, some none, some none, some none, some none, some none, some none, some none, some none, some none, some none, some none, some none, some none, some none, some none, some none, some none, some none, some none, some none, some none, some none, some none, some none, some none, some none, some none, some none, some none, some none, some none, some none, some none, some none, some none, some none, some none, some none, some none, some none, some none, some none, some none, some none, some none, some none, some none, some none, some none, some none, some none, some none, some none, some none, none, none, none, none, none, none, none, none, none, none, none, none, none, none, none, none, none, none, none, none, none, none, none, none, none, none, none, none, none, none, none, none, none, none, none, none, none, none, none, none, none, none, none, none, none, none, none, none, none, none, none, none, none, none, none, none, none, none, none, none, none, none, none, none, none, none, none, none, none, none, none, none, none, none, none, none, none, none, none, none, none, none, none, none, none, none, none, none, none, none, none, none, none, none, none, none, none, none] [u0, .map (some b), .pointer (some ⟨w.heap.size, 0, none⟩), u3, u4, u5, u6, u7, u8, u9, u10, u11, u12, u13, u14, .func (.func 29) #[] #[.pointer (some ⟨w.heap.size + 2, 0, none⟩)], u16, u17, .pointer (some ⟨bN + 1, 0, none⟩), u19, .map (some (bN + 3)), u21, u22, u23, .map (some bO), .map (some (bO + 1)), .map (some (bO + 2)), u27, u28, u29, u30, u31, u32, u33, u34, u35, u36, u37, u38, u39, u40, u41, u42, u43, u44, u45, u46, u47, u48, u49, u50, u51, u52, u53, u54, u55, u56, u57, u58, u59, u60, u61, u62, u63, u64, u65, u66, u67, u68, u69, u70, u71, u72, u73, u74, u75, u76, u77, u78, u79, u80, u81, u82, u83, u84, u85, u86, u87, u88, u89, u90, u91, u92, u93, u94, u95, u96, u97, u98, u99, u100, u101, u102, u103, u104, u105, u106, u107, u108, u109, u110, u111, u112, u113, u114, u115, u116, u117, u118, u119, u120, u121, u122, u123, u124, u125, u126, u127, u128, u129, u130, u131, u132, u133, u134, u135, u136, u137, u138, u139, u140, u141, u142, u143, u144, u145, u146, u147, u148, u149, u150, u151, u152, u153, u154, u155, u156, u157, u158, u159, u160, u161, u162, u163, u164, u165, u166, u167, u168, u169, u170, u171, u172, u173, u174, u175, u176, u177, u178, u179, u180, u181, u182, u183, u184, u185, u186, u187, u188, u189, u190, .slice (some ⟨bN + 2, 0, none⟩) A.length A.length, u192, .int .i64 v, u194, u195, u196, u197, u198, u199, u200, u201, u202, u203, u204, u205, u206, u207, u208, u209, u210, u211, u212, u213, u214, u215, u216, u217, u218, u219, u220, u221, u222, u223, u224, u225, u226, u227, u228, u229, u230, u231, u232, u233, u234, u235, u236, u237, u238, u239, u240, u241, u242, u243, u244, u245, u246, u247, u248, u249, u250, u251, u252, u253, u254, u255, u256, u257, u258, u259, u260, u261, u262, u263, u264, u265, u266, u267, u268, u269, u270, u271, u272, u273, u274, u275, u276, u277, u278, u279, u280, u281, u282, u283, u284, u285, u286, u287, u288, u289, u290, u291, u292, u293, u294, u295, u296, u297, u298, u299, u300, u301, u302, u303, u304, u305, u306, u307, u308, u309, u310, u311, u312, u313, u314, u315, u316, u317, u318, u319, u320, u321, u322, u323, u324, u325, u326, u327, u328, u329, u330, u331, u332, u333, u334, u335, u336, u337, u338, u339, u340, u341, u342, u343, u344, u345, u346, u347, u348, u349, u350, u351, u352, u353, u354, u355, u356, u357, u358, u359, u360, u361, u362, u363, u364, u365, u366, u367, u368, u369, u370, u371, u372, u373, u374, u375, u376, u377, u378, u379, u380, u381, u382, u383, u384, u385, u386, u387, u388, u389, u390, u391, u392, u393, u394, u395, u396, u397, u398, u399, u400, u401, u402, u403, u404, u405, u406, u407, u408, u409, u410, u411, u412, u413, u414, u415, u416, u417, u418, u419, u420, u421, u422, u423, u424, u425, u426, u427, u428, u429, u430, u431, u432, u433, u434, u435, u436, u437, u438, u439, u440, u441, u442, u443, u444, u445, u446, u447, u448, u449, u450, u451, u452, u453, u454, u455, u456, u457, u458, u459, u460, u461, u462, u463, u464, u465, u466, u467, u468, u469, u470, u471, u472, u473, u474, u475, u476, u477, u478, u479, u480, u481, u482, u483, u484, u485, u486, u487, u488, u489, u490, u491, u492, u493, u494, u495, u496, u497, u498, u499, u500, u501, u502, u503, u504, u505, u506] [] (fun _ _ wc => ∃ (g : GG) (G : List (List Nat)) (sg : SG) (ss : List Sr) (og : OG) (os : List Ob) (om sm : Nat → Option Nat) (vars vers T : List Nat), Pcs w wc (LE w R.top hs.length cap A fC nV fV bF zs bN NS g G J0 sg ss og os TX NM bO om sm T) ∧ EI hs F A zs NM (v + 1) 0 om sm vars vers os ss G ((v + 1) * 4000) ∧ (∀ s ∈ ss, s.rd ≠ [])) a' w' → J a' w') (hK : ∀ a' w', Met J a' w' → K' a' w') : c11.wp Ybaz.prog (Exit.then K' Q') ⟨[u0, .map (some b), .pointer (some ⟨w.heap.size, 0, none⟩), u3, u4, u5, u6, u7, u8, u9, u10, u11, u12, u13, u14, .func (.func 29) #[] #[.pointer (some ⟨w.heap.size + 2, 0, none⟩)], u16, u17, .pointer (some ⟨bN + 1, 0, none⟩), u19, .map (some (bN + 3)), u21, u22, u23, .map (some bO), .map (some (bO + 1)), .map (some (bO + 2)), u27, u28, u29, u30, u31, u32, u33, u34, u35, u36, u37, u38, u39, u40, u41, u42, u43, u44, u45, u46, u47, u48, u49, u50, u51, u52, u53, u54, u55, u56, u57, u58, u59, u60, u61, u62, u63, u64, u65, u66, u67, u68, u69, u70, u71, u72, u73, u74, u75, u76, u77, u78, u79, u80, u81, u82, u83, u84, u85, u86, u87, u88, u89, u90, u91, u92, u93, u94, u95, u96, u97, u98, u99, u100, u101, u102, u103, u104, u105, u106, u107, u108, u109, u110, u111, u112, u113, u114, u115, u116, u117, u118, u119, u120, u121, u122, u123, u124, u125, u126, u127, u128, u129, u130, u131, u132, u133, u134, u135, u136, u137, u138, u139, u140, u141, u142, u143, u144, u145, u146, u147, u148, u149, u150, u151, u152, u153, u154, u155, u156, u157, u158, u159, u160, u161, u162, u163, u164, u165, u166, u167, u168, u169, u170, u171, u172, u173, u174, u175, u176, u177, u178, u179, u180, u181, u182, u183, u184, u185, u186, u187, u188, u189, u190, .slice (some ⟨bN + 2, 0, none⟩) A.length A.length, u192, .int .i64 v, u194, u195, u196, u197, u198, u199, u200, u201, u202, u203, u204, u205, u206, u207, u208, u209, u210, u211, u212, u213, u214, u215, u216, u217, u218, u219, u220, u221, u222, u223, u224, u225, u226, u227, u228, u229, u230, u231, u232, u233, u234, u235, u236, u237, u238, u239, u240, u241, u242, u243, u244, u245, u246, u247, u248, u249, u250, u251, u252, u253, u254, u255, u256, u257, u258, u259, u260, u261, u262, u263, u264, u265, u266, u267, u268, u269, u270, u271, u272, u273, u274, u275, u276, u277, u278, u279, u280, u281, u282, u283, u284, u285, u286, u287, u288, u289, u290, u291, u292, u293, u294, u295, u296, u297, u298, u299, u300, u301, u302, u303, u304, u305, u306, u307, u308, u309, u310, u311, u312, u313, u314, u315, u316, u317, u318, u319, u320, u321, u322, u323, u324, u325, u326, u327, u328, u329, u330, u331, u332, u333, u334, u335, u336, u337, u338, u339, u340, u341, u342, u343, u344, u345, u346, u347, u348, u349, u350, u351, u352, u353, u354, u355, u356, u357, u358, u359, u360, u361, u362, u363, u364, u365, u366, u367, u368, u369, u370, u371, u372, u373, u374, u375, u376, u377, u378, u379, u380, u381, u382, u383, u384, u385, u386, u387, u388, u389, u390, u391, u392, u393, u394, u395, u396, u397, u398, u399, u400, u401, u402, u403, u404, u405, u406, u407, u408, u409, u410, u411, u412, u413, u414, u415, u416, u417, u418, u419, u420, u421, u422, u423, u424, u425, u426, u427, u428, u429, u430, u431, u432, u433, u434, u435, u436, u437, u438, u439, u440, u441, u442, u443, u444, u445, u446, u447, u448, u449, u450, u451, u452, u453, u454, u455, u456, u457, u458, u459, u460, u461, u462, u463, u464, u465, u466, u467, u468, u469, u470, u471, u472, u473, u474, u475, u476, u477, u478, u479, u480, u481, u482, u483, u484, u485, u486, u487, u488, u489, u490, u491, u492, u493, u494, u495, u496, u497, u498, u499, u500, u501, u502, u503, u504, u505, u506].toArray, []⟩ wr := by
  have H' : Hid _ := H
  have O' : Hid _ := O
  have WW : Hid _ := W
  have RO' : Hid _ := RO
  have MF : Hid _ := MF0
  have HAR : Hid (A = rksAll 0 hs) := hA
  have ZP : Hid (zs.Perm (List.range A.length)) := hp
  have NI : Hid _ := nmi
  have HVB : Hid (∀ s k e x, At hs s k e x → x.v < 900 ∧ x.x < 900) := hvb
  have hbw : b < w.heap.size := MF0.lt
  have P9 : Hid _ := hP
  have E9 : Hid _ := hE
  have HJ : Hid _ := hJ
  have HTX : Hid (TX = txsAt A zs A.length) := htx
  have ZL : zs.length = A.length := by have := hp.length_eq; simpa using this
  obtain ⟨t0, ht0⟩ := has_at zs (k := v) (by rw [ZL]; exact hv)
  have htm : t0 < A.length := by
    have := hp.mem_iff.mp (List.mem_of_getElem? ht0)
    simpa using this
  obtain ⟨r, hr⟩ := has_at A htm
  have hat : atOf A t0 = (r.s, r.k) := by simp [atOf, hr]
  have AT : Hid ((ats A zs)[v]? = some (r.s, r.k)) := by
    show (ats A zs)[v]? = some (r.s, r.k)
    simp [ats, ht0, hat]
  have hmem : r ∈ rksAll 0 hs := by rw [← hA]; exact List.mem_of_getElem? hr
  obtain ⟨hm1, l, t, hl, htt, hcm, hm2⟩ := rksAll_mem hs 0 r hmem
  clear hm1 hm2
  rw [Nat.sub_zero] at hl
  have L3 : Hid (hs[r.s]? = some l) := hl
  have T3 : Hid (l[r.k]? = some t) := htt
  have CM : Hid (Cm hs r.s r.k) := ⟨l, t, hl, htt, hcm⟩
  have hrs : r.s < hs.length := (List.getElem?_eq_some_iff.mp hl).1
  have hs9 := O.small
  have hrk : r.k < l.length := (List.getElem?_eq_some_iff.mp htt).1
  have hll := O.small2 l (List.mem_of_getElem? hl)
  have htl := O.small3 l (List.mem_of_getElem? hl) t (List.mem_of_getElem? htt)
  have TXS : Sl wr 105 2 (some ⟨bN + 2, 0, none⟩) A.length A.length [bN + 2] (TX.flatMap p2C) := hP.mem (i := 6) rfl
  obtain ⟨gT, eT, eT3, ltT, cT, fT⟩ := TXS.has (by omega)
  have eT2 : gT = bN + 2 := by
    injection eT with eT
    injection eT with eT
    exact eT.symm
  subst eT2
  clear eT eT3 fT
  have etx : TX[v]? = some (r.s, r.k) := by
    rw [htx]
    unfold txsAt
    rw [ZL, Nat.sub_self, List.replicate_zero, List.append_nil, List.getElem?_take, if_pos hv]
    exact AT.out
  have x0 : wr.cell? ⟨bN + 2, v * 2, none⟩ = some (.int .i64 r.s) := by
    have e := flat3 p2C 2 (fun _ => rfl) TX v 0 (r.s, r.k) etx (by omega)
    rw [Nat.add_zero] at e
    rw [cT (v * 2) (by omega), e]; rfl
  have x1 : wr.cell? ⟨bN + 2, v * 2 + 1, none⟩ = some (.int .i64 r.k) := by
    rw [cT (v * 2 + 1) (by omega), flat3 p2C 2 (fun _ => rfl) TX v 1 (r.s, r.k) etx (by omega)]; rfl
  obtain ⟨bA, hbA⟩ : ∃ z, z = wr.heap.size := ⟨_, rfl⟩
  have PX : Hid (Pcs w (wr.alloc (.cells #[.int .i64 r.s, .int .i64 r.k] 105)) (LE w R.top hs.length cap A fC nV fV bF zs bN NS g G J0 sg ss og os TX NM bO om sm T ++ [([bA], BlkIs bA 105 #[.int .i64 r.s, .int .i64 r.k])])) := by
    rw [hbA]
    exact P9.out.add (Upd.alloc [] _ _) (by simp) [wr.heap.size] _ (Blk.new _ _ _) (BlkIs.keeps _ _ _) (by simp) (by simp)
  have MT : Hid (MapAt (wr.alloc (.cells #[.int .i64 r.s, .int .i64 r.k] 105)) (ik .u64) (bO + 2) (tmF T)) := PX.out.mem (i := 10) rfl
  clear ht0 hr hat hmem hl htt hcm TXS cT etx htx
  clear H O W RO MF0 hA hp nmi hvb
  clear hP hE hJ
  conv => arg 2; whnf
  go_upto_region 49 with (refine wpList_wipe rfl (.tmp 198) 137 rfl Ybaz.underlying137 (bO + 2) _ MT.out rfl ?_; intro w9 m9 u9; have M9 : Hid _ := m9; have U9 : Hid _ := u9; clear m9 u9)
  rw [put_none]
  have PY : Hid (Pcs w w9 (LE w R.top hs.length cap A fC nV fV bF zs bN NS g G J0 sg ss og os TX NM bO om sm [] ++ [([bA], BlkIs bA 105 #[.int .i64 r.s, .int .i64 r.k])])) :=
    PX.out.put (i := 10) rfl U9.out (P' := fun z => MapAt z (ik .u64) (bO + 2) (tmF [])) (M9.out.congr (fun _ => by simp [tmF])) (mapKeeps _ _ _) (fun x hx => ⟨.inl hx, by simp at hx; subst hx; exact M9.out.lt⟩) (by simp)
  rw [← hbA]
  clear hbA PX MT M9 U9 P9 x0 x1 ltT
  have cB : w9.cell? ⟨w.heap.size, 0, none⟩ = some (.slice (some ⟨R.top, 0, none⟩) hs.length cap) := PY.out.mem (i := 0) rfl
  have bA5 : Blk w9 bA 105 #[.int .i64 r.s, .int .i64 r.k] := PY.out.mem (i := 11) rfl
  have a0 : w9.cell? ⟨bA, 0, none⟩ = some (.int .i64 r.s) := bA5.cell 0
  have a1 : w9.cell? ⟨bA, 1, none⟩ = some (.int .i64 r.k) := bA5.cell 1
  have HW := H'.out.below PY.out.bel
  obtain ⟨o1, c1, c2⟩ := HW.base.ses r.s l L3.out
  obtain ⟨o2, c3, c4⟩ := HW.base.evs r.s l r.k t L3.out T3.out
  have ho1 : o1 = some ⟨R.ses r.s, 0, none⟩ := c2 (by intro h; rw [h] at hrk; simp at hrk)
  subst ho1
  have C4 : Hid (t.evs ≠ [] → o2 = some ⟨R.evs r.s r.k, 0, none⟩) := c4
  clear c2 c4 HW bA5
  go_big_quiet (fail)
  clear cB a0 a1 c1 c3
  obtain ⟨Wd, hWd⟩ : ∃ z : World, z = w9.drewN nq := ⟨_, rfl⟩
  have PZ : Hid (Pcs w Wd (LE w R.top hs.length cap A fC nV fV bF zs bN NS g G J0 sg ss og os TX NM bO om sm [] ++ [([bA], BlkIs bA 105 #[.int .i64 r.s, .int .i64 r.k])])) := by
    show Pcs w Wd _
    rw [hWd]
    exact PY.out.keep (Upd.drewN [] _ _) (by simp)
  rw [← hWd]
  clear hWd PY
  go_wp2_with fail
  refine wp_loopC [none, none, none, none, none, none, none, none, none, none, none, none, none, none, none, none, none, none, none, none, none, none, none, none, none, none, none, none, none, none, some none, some none, some none, some none, some none, some none, some none, some none, some none, none, none, none, none, none, none, none, none, none, none, none, none, none, none, none, none, none, none, none, none, none, none, none, none, none, none, none, none, none, none, none, none, none, none, none, none, none, none, none, none, none, none, none, none, none, none, none, none, none, none, none, none, none, none, none, none, none, none, none, none, none, none, none, none, none, none, none, none, none, none, none, none, none, none, none, none, none, none, none, none, none, none, none, none, none, none, none, none, none, none, none, none, none, none, none, none, none, none, none, none, none, none, none, none, none, none, none, none, none, none, none, none, none, none, none, none, none, none, none, none, none, none, none, none, none, none, none, none, none, none, none, none, none, none, none, none, none, none, none, none, none, none, none, none, none, none, none, none, none, none, none, none, none, none, none, none, none, none, none, none, none, none, none, none, none, none, none, none, none, none, none, none, some (some false), some none, some none, some none, some none, some none, some none, some none, some none, some none, some none, some none, some none, some none, some none, some none, some none, some none, some none, some none, some none, some none, some none, some none, some none, some none, some none, some none, some none, some none, some none, some none, some none, some none, some none, some none, some none, some none, some none, some none, some none, some none, some none, some none, some none, some none, some none, some none, some none, some none, some none, some none, some none, some none, some none, some none, some none, some none, some none, some none, some none, some none, some none, some none, some none, some none, some none, some none, some none, some none, some none, some none, some none, some none, some none, some none, some none, some none, some none, some none, some none, some none, some none, some none, some none, some none, some none, some none, some none, some none, some none, some none, some none, some none, some none, some none, some none, some none, some none, some none, some none, some none, some none, some none, some none, some none, some none, some none, some none, some none, some none, some none, some none, some none, some none, some none, some none, some none, some none, some none, some none, some none, some none, some none, some none, some none, some none, some none, some none, some none, some none, some none, some none, some none, some none, some none, some none, some none, some none, some none, some none, some none, some none, some none, some none, some none, some none, some none, some none, some none, some none, some none, some none, some none, some none, some none, some none, some none, some none, some none, some none, some none, some none, some none, some none, some none, some none, some none, some none, some none, some none, some none, some none, some none, some none, some none, some none, some none, some none, some none, some none, some none, some none, some none, some none, some none, some none, some none, some none, some none, some none, some none, some none, some none, some none, some none, some none, some none, none, none, none, none, none, none, none, none, none, none, none, none, none, none, none, none, none, none, none, none, none, none, none, none, none, none, none, none, none, none, none, none, none, none, none, none, none, none, none, none, none, none, none, none, none, none, none, none, none, none, none, none, none, none, none, none, none, none, none, none, none, none, none, none, none, none, none, none, none, none, none, none, none, none, none, none, none, none, none, none, none, none, none, none, none, none, none, none, none, none, none, none, none, none, none, none, none, none] (fun n7 t211 _ wr => ∃ (e : Nat) (g : GG) (G : List (List Nat)) (sg : SG) (ss : List Sr) (og : OG) (os : List Ob) (om sm : Nat → Option Nat) (vars vers T : List Nat), e ≤ t.evs.length ∧ n7 = t.evs.length - e ∧ t211 = .int .i64 e ∧ Pcs w wr (LE w R.top hs.length cap A fC nV fV bF zs bN NS g G J0 sg ss og os TX NM bO om sm T ++ [([bA], BlkIs bA 105 #[.int .i64 r.s, .int .i64 r.k])]) ∧ EI hs F A zs NM v e om sm vars vers os ss G (v * 4000 + 3 * e) ∧ (∀ y, y ∈ T ↔ IniD hs A zs v e y v) ∧ (∀ s ∈ ss, s.rd ≠ [])) t.evs.length (.int .i64 0) undef rfl ⟨0, _, _, _, _, _, _, _, _, _, _, [], by omega, by omega, rfl, PZ.out, E9.out, fun y => ⟨fun h => by simp at h, fun h => by obtain ⟨i, x, h, _⟩ := h; unfold Done at h; omega⟩, hRN⟩ ?_
  intro n7 u7' x7 y7 wr J7 K7 hrel hJ7 hK7
  clear PZ E9
  obtain ⟨e, g, G, sg, ss, og, os, om, sm, vars, vers, T, he1, rfl, rfl, h1, h2, h3, h4⟩ := hrel
  have RNH : Hid (∀ s ∈ ss, s.rd ≠ []) := h4
  clear h4 hRN
  have HJ7 : Hid _ := hJ7
  have P9 : Hid _ := h1
  have E9 : Hid _ := h2
  have TI9 : Hid (∀ y, y ∈ T ↔ IniD hs A zs v e y v) := h3
  clear hJ7 h1 h2 h3
  dsimp only [fillC, Nat.reduceAdd]
  by_cases hlte : e < t.evs.length
  · as_aux_lemma =>
    obtain ⟨x, hx⟩ := has_at t.evs hlte
    have HX0 : Hid (t.evs[e]? = some x) := hx
    have ho2 : o2 = some ⟨R.evs r.s r.k, 0, none⟩ := C4.out (by intro h; rw [h] at hlte; simp at hlte)
    subst ho2
    clear hx
    go_upto_if 212 with fail
    rename_i Kc hKc
    have HKc : Hid _ := hKc
    clear hKc
    go_wp2_with fail
    refine HKc.out _ _ ?_
    refine wp_seq_k ?_
    intro Kd hKd
    have HKd : Hid _ := hKd
    clear hKd
    refine wp_cutC [none, none, none, none, none, none, none, none, none, none, none, none, none, none, none, none, none, none, none, none, none, none, none, none, none, none, none, none, none, none, some none, some none, some none, some none, some none, some none, some none, some none, some none, none, none, none, none, none, none, none, none, none, none, none, none, none, none, none, none, none, none, none, none, none, none, none, none, none, none, none, none, none, none, none, none, none, none, none, none, none, none, none, none, none, none, none, none, none, none, none, none, none, none, none, none, none, none, none, none, none, none, none, none, none, none, none, none, none, none, none, none, none, none, none, none, none, none, none, none, none, none, none, none, none, none, none, none, none, none, none, none, none, none, none, none, none, none, none, none, none, none, none, none, none, none, none, none, none, none, none, none, none, none, none, none, none, none, none, none, none, none, none, none, none, none, none, none, none, none, none, none, none, none, none, none, none, none, none, none, none, none, none, none, none, none, none, none, none, none, none, none, none, none, none, none, none, none, none, none, none, none, none, none, none, none, none, none, none, none, none, none, none, none, none, none, none, none, some none, some none, some none, some none, some none, some none, some none, some none, some none, some none, some none, some none, some none, some none, some none, some none, some none, some none, some none, some none, some none, some none, some none, some none, some none, some none, some none, some none, some none, some none, some none, some none, some none, some none, some none, some none, some none, some none, some none, some none, some none, some none, some none, some none, some none, some none, some none, some none, some none, some none, some none, some none, some none, some none, some none, some none, some none, some none, some none, some none, some none, some none, some none, some none, some none, some none, some none, some none, some none, some none, some none, some none, some none, some none, some none, some none, some none, some none, some none, some none, some none, some none, some none, some none, some none, some none, some none, some none, some none, some none, some none, some none, some none, some none, some none, some none, some none, some none, some none, some none, some none, some none, some none, some none, some none, some none, some none, some none, some none, some none, some none, some none, some none, some none, some none, some none, some none, some none, some none, some none, some none, some none, some none, some none, some none, some none, some none, some none, some none, some none, some none, some none, some none, some none, some none, some none, some none, some none, some none, some none, some none, some none, some none, some none, some none, some none, some none, some none, some none, some none, some none, some none, some none, some none, some none, some none, some none, some none, some none, some none, some none, some none, some none, some none, some none, some none, some none, some none, some none, some none, some none, some none, some none, some none, some none, some none, some none, some none, some none, some none, some none, some none, some none, some none, some none, some none, some none, some none, some none, some none, some none, some none, some none, some none, some none, none, none, none, none, none, none, none, none, none, none, none, none, none, none, none, none, none, none, none, none, none, none, none, none, none, none, none, none, none, none, none, none, none, none, none, none, none, none, none, none, none, none, none, none, none, none, none, none, none, none, none, none, none, none, none, none, none, none, none, none, none, none, none, none, none, none, none, none, none, none, none, none, none, none, none, none, none, none, none, none, none, none, none, none, none, none, none, none, none, none, none, none, none, none, none, none, none, none, none] (fun _ _ wc => ∃ (g : GG) (G : List (List Nat)) (sg : SG) (ss : List Sr) (og : OG) (os : List Ob) (om sm : Nat → Option Nat) (vars vers T : List Nat), Pcs w wc (LE w R.top hs.length cap A fC nV fV bF zs bN NS g G J0 sg ss og os TX NM bO om sm T ++ [([bA], BlkIs bA 105 #[.int .i64 r.s, .int .i64 r.k])]) ∧ EI hs F A zs NM v (e + 1) om sm vars vers os ss G (v * 4000 + 3 * (e + 1)) ∧ (∀ y, y ∈ T ↔ IniD hs A zs v (e + 1) y v) ∧ (∀ s ∈ ss, s.rd ≠ [])) (fun J K' hJ hK => ev13 w R hs cap A fC nV fV bF zs bN NS J0 TX NM bO F b H'.out O'.out WW.out RO'.out MF.out HAR.out h12 ZP.out NI.out HVB.out hV g G sg ss og os om sm T vars vers v e bA r l t x L3.out T3.out HX0.out AT.out CM.out hv (R.ec r.s r.k) wr P9.out E9.out TI9.out RNH.out J K' _ hJ hK) ?_
    intro u8' x8 y8 wc hcut
    obtain ⟨g, G, sg, ss, og, os, om, sm, vars, vers, T, h1, h2, h3, h4⟩ := hcut
    clear P9 E9 TI9 RNH
    have RNH : Hid (∀ s ∈ ss, s.rd ≠ []) := h4
    clear h4
    have P9 : Hid _ := h1
    have E9 : Hid _ := h2
    have TI9 : Hid (∀ y, y ∈ T ↔ IniD hs A zs v (e + 1) y v) := h3
    clear h1 h2 h3
    dsimp only [fillC, Nat.reduceAdd]
    refine HKd.out _ _ ?_
    go_wp2_with fail
    refine Met.intro ?_
    refine HJ7.out _ _ ?_
    refine EndC.of (t.evs.length - (e + 1)) (.int .i64 ((e : Int) + 1)) undef ?_ (by omega) ?_
    · rfl
    exact ⟨e + 1, g, G, sg, ss, og, os, om, sm, vars, vers, T, by omega, rfl, by go_num, P9.out, E9.out, TI9.out, RNH.out⟩
  · as_aux_lemma =>
    have he2 : e = t.evs.length := by omega
    go_wp2_with fail
    refine Met.intro ?_
    refine HJ.out _ _ ?_
    refine MeetC.of undef undef ?_ ?_
    · rfl
    refine ⟨g, G, sg, ss, og, os, om, sm, vars, vers, T, P9.out.take 11, ?_, RNH.out⟩
    rw [he2] at E9
    refine (E9.out.next (fun i x hx => ?_)).up (by omega)
    obtain ⟨p, q1, l', t', q2, q3, q4⟩ := hx
    rw [AT.out] at q1; cases q1
    have := L3.out
    simp only at q2 q3
    rw [this] at q2; cases q2
    have := T3.out
    rw [this] at q3; cases q3
    exact (List.getElem?_eq_some_iff.mp q4).1
end Go.Proofs.YbulkctquGreatFmt

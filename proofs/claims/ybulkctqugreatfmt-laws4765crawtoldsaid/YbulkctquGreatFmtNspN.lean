/-
  newSessionPolygraph: one event.
-/
import Derived.Test.YbulkctquGreatFmtNspM
import Derived.Test.YbulkctquGreatFmtFlh
import Derived.Test.YbulkctquGreatFmtLex
import Derived.Deep.RegionHeld3
import Derived.Test.YbulkctquGreatFmtNspA
import Derived.Test.YbulkctquGreatFmtNspB
import Derived.Test.YbulkctquGreatFmtNspD
import Derived.Deep.RegionWith
import Derived.BigQuiet
import Derived.Deep.DeepCutAuto
namespace Go.Proofs.YbulkctquGreatFmt
open Go.ChangeShapes Go.WideShapes Go.ChangeAt Go.RowKit Go.Ord
set_option linter.unusedVariables false
attribute [-go_sem] Go.Builtin.append_ Go.Instr.buildSlice
set_option maxHeartbeats 16000000 in
set_option maxRecDepth 100000 in
theorem ev13 {u0 u2 u3 u4 u5 u6 u7 u8 u9 u10 u11 u12 u13 u14 u16 u17 u19 u21 u22 u23 u29 u30 u31 u32 u33 u34 u35 u36 u37 u38 u39 u40 u41 u42 u43 u44 u45 u46 u47 u48 u49 u50 u51 u52 u53 u54 u55 u56 u57 u58 u59 u60 u61 u62 u63 u64 u65 u66 u67 u68 u69 u70 u71 u72 u73 u74 u75 u76 u77 u78 u79 u80 u81 u82 u83 u84 u85 u86 u87 u88 u89 u90 u91 u92 u93 u94 u95 u96 u97 u98 u99 u100 u101 u102 u103 u104 u105 u106 u107 u108 u109 u110 u111 u112 u113 u114 u115 u116 u117 u118 u119 u120 u121 u122 u123 u124 u125 u126 u127 u128 u129 u130 u131 u132 u133 u134 u135 u136 u137 u138 u139 u140 u141 u142 u143 u144 u145 u146 u147 u148 u149 u150 u151 u152 u153 u154 u155 u156 u157 u158 u159 u160 u161 u162 u163 u164 u165 u166 u167 u168 u169 u170 u171 u172 u173 u174 u175 u176 u177 u178 u179 u180 u181 u182 u183 u184 u185 u186 u187 u188 u189 u190 u191 u192 u193 u194 u195 u196 u197 u198 u199 u200 u201 u202 u203 u204 u205 u206 u207 u208 u210 u212 u213 u214 u215 u216 u217 u218 u219 u220 u221 u222 u223 u224 u225 u226 u227 u228 u229 u230 u231 u232 u233 u234 u235 u236 u237 u238 u239 u240 u241 u242 u243 u244 u245 u246 u247 u248 u249 u250 u251 u252 u253 u254 u255 u256 u257 u258 u259 u260 u261 u262 u263 u264 u265 u266 u267 u268 u269 u270 u271 u272 u273 u274 u275 u276 u277 u278 u279 u280 u281 u282 u283 u284 u285 u286 u287 u288 u289 u290 u291 u292 u293 u294 u295 u296 u297 u298 u299 u300 u301 u302 u303 u304 u305 u306 u307 u308 u309 u310 u311 u312 u313 u314 u315 u316 u317 u318 u319 u320 u321 u322 u323 u324 u325 u326 u327 u328 u329 u330 u331 u332 u333 u334 u335 u336 u337 u338 u339 u340 u341 u342 u343 u344 u345 u346 u347 u348 u349 u350 u351 u352 u353 u354 u355 u356 u357 u358 u359 u360 u361 u362 u363 u364 u365 u366 u367 u368 u369 u370 u371 u372 u373 u374 u375 u376 u377 u378 u379 u380 u381 u382 u383 u384 u385 u386 u387 u388 u389 u390 u391 u392 u393 u394 u395 u396 u397 u398 u399 u400 u401 u402 u403 u404 u405 u406 u407 u408 u409 u410 u411 u412 u413 u414 u415 u416 u417 u418 u419 u420 u421 u422 u423 u424 u425 u426 u427 u428 u429 u430 u431 u432 u433 u434 u435 u436 u437 u438 u439 u440 u441 u442 u443 u444 u445 u446 u447 u448 u449 u450 u451 u452 u453 u454 u455 u456 u457 u458 u459 u460 u461 u462 u463 u464 u465 u466 u467 u468 u469 u470 u471 u472 u473 u474 u475 u476 u477 u478 u479 u480 u481 u482 u483 u484 u485 u486 u487 u488 u489 u490 u491 u492 u493 u494 u495 u496 u497 u498 u499 u500 u501 u502 u503 u504 u505 u506 : Value} (w : World) (R : HR) (hs : List (List Tx)) (cap : Nat) (A : List Rk) (fC : List Nat) (nV : Nat) (fV : List Nat) (bF : Nat) (zs : List Nat) (bN : Nat) (NS : List (List UInt8)) (J0 : List Bool) (TX : List (Nat × Nat)) (NM : Nat × Nat → Option Nat) (bO : Nat) (F : Nat → Option Wr) (b : Nat) (H : HistE w R hs) (O : HOk hs) (W : WF hs F) (RO : ROk hs) (MF0 : MapAt w (ik .u64) b (fun v => (F v).map Wr.val)) (hA : A = rksAll 0 hs) (h12 : A.length ≤ 12) (hp : zs.Perm (List.range A.length)) (nmi : NMI A zs A.length NM) (hvb : ∀ s k e x, At hs s k e x → x.v < 900 ∧ x.x < 900) (hV : nV ≤ 10000) (g : GG) (G : List (List Nat)) (sg : SG) (ss : List Sr) (og : OG) (os : List Ob) (om sm : Nat → Option Nat) (T vars vers : List Nat) (v e bA : Nat) (r : Rk) (l : List Tx) (t : Tx) (x : Ev) (hl0 : hs[r.s]? = some l) (ht0 : l[r.k]? = some t) (hx0 : t.evs[e]? = some x) (hat0 : (ats A zs)[v]? = some (r.s, r.k)) (hcm0 : Cm hs r.s r.k) (hv : v < A.length) (cE : Nat) (wr : World) (hP : Pcs w wr (LE w R.top hs.length cap A fC nV fV bF zs bN NS g G J0 sg ss og os TX NM bO om sm T ++ [([bA], BlkIs bA 105 #[.int .i64 r.s, .int .i64 r.k])])) (hE : EI hs F A zs NM v e om sm vars vers os ss G (v * 4000 + 3 * e)) (hT : ∀ y, y ∈ T ↔ IniD hs A zs v e y v) (hRN : ∀ s ∈ ss, s.rd ≠ []) (J K' : Act → World → Prop) (Q' : Exit → Act → World → Prop)
    (hJ : ∀ a' w', MeetC [none, none, none, none, none, none, none, none, none, none, none, none, none, none, none, none, none, none, none, none, none, none, none, none, none, none, none, none, none, none, some none, some none, some none, some none, some none, some none, some none, some none, some none, none, none, none, none, none, none, none, none, none, none, none, none, none, none, none, none, none, none, none, none, none, none, none, none, none, none, none, none, none, none, none, none, none, none, none, none, none, none, none, none, none, none, none, none, none, none, none, none, none, none, none, none, none, none, none, none, none, none, none, none, none, none, none, none, none, none, none, none, none, none, none, none, none, none, none, none, none, none, none, none, none, none, none, none, none, none, none, none, none, none, none, none, none, none, none, none, none, none, none, none, none, none, none, none, none, none, none, none, none, none, none, none, none, none, none, none, none, none, none, none, none, none, none, none, none, none, none, none, none, none, none, none, none, none, none, none, none, none, none, none, none, none, none, none, none, none, none, none, none, none, none, none, none, none, none, none, none, none, none, none, none, none, none, none, none, none, none, none, none, none, none, none, none, none, some none, some none, some none, some none, some none, some none, some none, some none, some none, some none, some none, some none, some none, some none, some none, some none, some none, some none, some none, some none, some none, some none, some none, some none, some none, some none, some none, some none, some none, some none, some none, some none, some none, some none, some none, some none, some none, some none, some none, some none, some none, some none, some none, some none, some none, some none, some none, some none, some none, some none, some none, some none, some none, some none, some none, some none, some none, some none, some none, some none, some none, some none, some none, some none, some none, some none, some none, some none, some none, some none, some none, some none, some none, some none, some none, some none, some none, some none, some none, some none, some none, some none, some none, some none, some none, some none, some none, some none, some none, some none, some none, some none, some none, some none, some none, some none, some none, some none, some none, some none, some none, some none, some none, some none, some none, some none, some none, some none, some none, some none, some none, some none, some none, some none, some none, some none, some none, some none, some none, some none, some none, some none, some none, some none, some none, some none, some none, some none, some none, some none, some none, some none, some none, some none, some none, some none, some none, some none, some none, some none, some none, some none, some none, some none, some none, some none, some none, some none, some none, some none, some none, some none, some none, some none, some none, some none, some none, some none, some none, some none, some none, some none, some none, some none, some none, some none, some none, some none, some none, some none, some none, some none, some none, some none, some none, some none, some none, some none, some none, some none, some none, some none, some none, some none, some none, some none, some none, some none, some none, some none, some none, some none, some none, some none, some none, none, none, none, none, none, none, none, none, none, none, none, none, none, none, none, none, none, none, none, none, none, none, none, none, none, none, none, none, none, none, none, none, none, none, none, none, none, none, none, none, none, none, none, none, none, none, none, none, none, none, none, none, none, none, none, none, none, none, none, none, none, none, none, none, none, none, none, none, none, none, none, none, none, none, none, none, none, none, none, none, none, none, none, none, none, none, none, none, none, none, none, none, none, none, none, none, none, none, none] [u0, .map (some b), u2, u3, u4, u5, u6, u7, u8, u9, u10, u11, u12, u13, u14, .func (.func 29) #[] #[.pointer (some ⟨w.heap.size + 2, 0, none⟩)], u16, u17, .pointer (some ⟨bN + 1, 0, none⟩), u19, .map (some (bN + 3)), u21, u22, u23, .map (some bO), .map (some (bO + 1)), .map (some (bO + 2)), .int .i64 v, .pointer (some ⟨bA, 0, none⟩), u29, u30, u31, u32, u33, u34, u35, u36, u37, u38, u39, u40, u41, u42, u43, u44, u45, u46, u47, u48, u49, u50, u51, u52, u53, u54, u55, u56, u57, u58, u59, u60, u61, u62, u63, u64, u65, u66, u67, u68, u69, u70, u71, u72, u73, u74, u75, u76, u77, u78, u79, u80, u81, u82, u83, u84, u85, u86, u87, u88, u89, u90, u91, u92, u93, u94, u95, u96, u97, u98, u99, u100, u101, u102, u103, u104, u105, u106, u107, u108, u109, u110, u111, u112, u113, u114, u115, u116, u117, u118, u119, u120, u121, u122, u123, u124, u125, u126, u127, u128, u129, u130, u131, u132, u133, u134, u135, u136, u137, u138, u139, u140, u141, u142, u143, u144, u145, u146, u147, u148, u149, u150, u151, u152, u153, u154, u155, u156, u157, u158, u159, u160, u161, u162, u163, u164, u165, u166, u167, u168, u169, u170, u171, u172, u173, u174, u175, u176, u177, u178, u179, u180, u181, u182, u183, u184, u185, u186, u187, u188, u189, u190, u191, u192, u193, u194, u195, u196, u197, u198, u199, u200, u201, u202, u203, u204, u205, u206, u207, u208, .slice (some ⟨R.evs r.s r.k, 0, none⟩) t.evs.length cE, u210, .int .i64 e, u212, u213, u214, u215, u216, u217, u218, u219, u220, u221, u222, u223, u224, u225, u226, u227, u228, u229, u230, u231, u232, u233, u234, u235, u236, u237, u238, u239, u240, u241, u242, u243, u244, u245, u246, u247, u248, u249, u250, u251, u252, u253, u254, u255, u256, u257, u258, u259, u260, u261, u262, u263, u264, u265, u266, u267, u268, u269, u270, u271, u272, u273, u274, u275, u276, u277, u278, u279, u280, u281, u282, u283, u284, u285, u286, u287, u288, u289, u290, u291, u292, u293, u294, u295, u296, u297, u298, u299, u300, u301, u302, u303, u304, u305, u306, u307, u308, u309, u310, u311, u312, u313, u314, u315, u316, u317, u318, u319, u320, u321, u322, u323, u324, u325, u326, u327, u328, u329, u330, u331, u332, u333, u334, u335, u336, u337, u338, u339, u340, u341, u342, u343, u344, u345, u346, u347, u348, u349, u350, u351, u352, u353, u354, u355, u356, u357, u358, u359, u360, u361, u362, u363, u364, u365, u366, u367, u368, u369, u370, u371, u372, u373, u374, u375, u376, u377, u378, u379, u380, u381, u382, u383, u384, u385, u386, u387, u388, u389, u390, u391, u392, u393, u394, u395, u396, u397, u398, u399, u400, u401, u402, u403, u404, u405, u406, u407, u408, u409, u410, u411, u412, u413, u414, u415, u416, u417, u418, u419, u420, u421, u422, u423, u424, u425, u426, u427, u428, u429, u430, u431, u432, u433, u434, u435, u436, u437, u438, u439, u440, u441, u442, u443, u444, u445, u446, u447, u448, u449, u450, u451, u452, u453, u454, u455, u456, u457, u458, u459, u460, u461, u462, u463, u464, u465, u466, u467, u468, u469, u470, u471, u472, u473, u474, u475, u476, u477, u478, u479, u480, u481, u482, u483, u484, u485, u486, u487, u488, u489, u490, u491, u492, u493, u494, u495, u496, u497, u498, u499, u500, u501, u502, u503, u504, u505, u506] [] (fun _ _ wc => ∃ (g : GG) (G : List (List Nat)) (sg : SG) (ss : List Sr) (og : OG) (os : List Ob) (om sm : Nat → Option Nat) (vars vers T : List Nat), Pcs w wc (LE w R.top hs.length cap A fC nV fV bF zs bN NS g G J0 sg ss og os TX NM bO om sm T ++ [([bA], BlkIs bA 105 #[.int .i64 r.s, .int .i64 r.k])]) ∧ EI hs F A zs NM v (e + 1) om sm vars vers os ss G (v * 4000 + 3 * (e + 1)) ∧ (∀ y, y ∈ T ↔ IniD hs A zs v (e + 1) y v) ∧ (∀ s ∈ ss, s.rd ≠ [])) a' w' → J a' w') (hK : ∀ a' w', Met J a' w' → K' a' w') : c13.wp Ybaz.prog (Exit.then K' Q') ⟨[u0, .map (some b), u2, u3, u4, u5, u6, u7, u8, u9, u10, u11, u12, u13, u14, .func (.func 29) #[] #[.pointer (some ⟨w.heap.size + 2, 0, none⟩)], u16, u17, .pointer (some ⟨bN + 1, 0, none⟩), u19, .map (some (bN + 3)), u21, u22, u23, .map (some bO), .map (some (bO + 1)), .map (some (bO + 2)), .int .i64 v, .pointer (some ⟨bA, 0, none⟩), u29, u30, u31, u32, u33, u34, u35, u36, u37, u38, u39, u40, u41, u42, u43, u44, u45, u46, u47, u48, u49, u50, u51, u52, u53, u54, u55, u56, u57, u58, u59, u60, u61, u62, u63, u64, u65, u66, u67, u68, u69, u70, u71, u72, u73, u74, u75, u76, u77, u78, u79, u80, u81, u82, u83, u84, u85, u86, u87, u88, u89, u90, u91, u92, u93, u94, u95, u96, u97, u98, u99, u100, u101, u102, u103, u104, u105, u106, u107, u108, u109, u110, u111, u112, u113, u114, u115, u116, u117, u118, u119, u120, u121, u122, u123, u124, u125, u126, u127, u128, u129, u130, u131, u132, u133, u134, u135, u136, u137, u138, u139, u140, u141, u142, u143, u144, u145, u146, u147, u148, u149, u150, u151, u152, u153, u154, u155, u156, u157, u158, u159, u160, u161, u162, u163, u164, u165, u166, u167, u168, u169, u170, u171, u172, u173, u174, u175, u176, u177, u178, u179, u180, u181, u182, u183, u184, u185, u186, u187, u188, u189, u190, u191, u192, u193, u194, u195, u196, u197, u198, u199, u200, u201, u202, u203, u204, u205, u206, u207, u208, .slice (some ⟨R.evs r.s r.k, 0, none⟩) t.evs.length cE, u210, .int .i64 e, u212, u213, u214, u215, u216, u217, u218, u219, u220, u221, u222, u223, u224, u225, u226, u227, u228, u229, u230, u231, u232, u233, u234, u235, u236, u237, u238, u239, u240, u241, u242, u243, u244, u245, u246, u247, u248, u249, u250, u251, u252, u253, u254, u255, u256, u257, u258, u259, u260, u261, u262, u263, u264, u265, u266, u267, u268, u269, u270, u271, u272, u273, u274, u275, u276, u277, u278, u279, u280, u281, u282, u283, u284, u285, u286, u287, u288, u289, u290, u291, u292, u293, u294, u295, u296, u297, u298, u299, u300, u301, u302, u303, u304, u305, u306, u307, u308, u309, u310, u311, u312, u313, u314, u315, u316, u317, u318, u319, u320, u321, u322, u323, u324, u325, u326, u327, u328, u329, u330, u331, u332, u333, u334, u335, u336, u337, u338, u339, u340, u341, u342, u343, u344, u345, u346, u347, u348, u349, u350, u351, u352, u353, u354, u355, u356, u357, u358, u359, u360, u361, u362, u363, u364, u365, u366, u367, u368, u369, u370, u371, u372, u373, u374, u375, u376, u377, u378, u379, u380, u381, u382, u383, u384, u385, u386, u387, u388, u389, u390, u391, u392, u393, u394, u395, u396, u397, u398, u399, u400, u401, u402, u403, u404, u405, u406, u407, u408, u409, u410, u411, u412, u413, u414, u415, u416, u417, u418, u419, u420, u421, u422, u423, u424, u425, u426, u427, u428, u429, u430, u431, u432, u433, u434, u435, u436, u437, u438, u439, u440, u441, u442, u443, u444, u445, u446, u447, u448, u449, u450, u451, u452, u453, u454, u455, u456, u457, u458, u459, u460, u461, u462, u463, u464, u465, u466, u467, u468, u469, u470, u471, u472, u473, u474, u475, u476, u477, u478, u479, u480, u481, u482, u483, u484, u485, u486, u487, u488, u489, u490, u491, u492, u493, u494, u495, u496, u497, u498, u499, u500, u501, u502, u503, u504, u505, u506].toArray, []⟩ wr := by
  have H' : Hid _ := H
  have O' : Hid _ := O
  have WW : Hid _ := W
  have RO' : Hid _ := RO
  have MF : Hid _ := MF0
  have HAR : Hid (A = rksAll 0 hs) := hA
  have ZP : Hid (zs.Perm (List.range A.length)) := hp
  have NI : Hid _ := nmi
  have HVB : Hid (∀ s k e x, At hs s k e x → x.v < 900 ∧ x.x < 900) := hvb
  have hbw : b < w.heap.size := MF0.lt
  have L3 : Hid (hs[r.s]? = some l) := hl0
  have T3 : Hid (l[r.k]? = some t) := ht0
  have HX0 : Hid (t.evs[e]? = some x) := hx0
  have AT : Hid ((ats A zs)[v]? = some (r.s, r.k)) := hat0
  have CM : Hid (Cm hs r.s r.k) := hcm0
  have HAT : Hid (At hs r.s r.k e x) := ⟨l, t, hl0, ht0, hx0⟩
  have HEN : Hid (EvN hs A zs v e x) := ⟨(r.s, r.k), hat0, l, t, hl0, ht0, hx0⟩
  have P9 : Hid _ := hP
  have E9 : Hid _ := hE
  have TI9 : Hid (∀ y, y ∈ T ↔ IniD hs A zs v e y v) := hT
  have HJ : Hid _ := hJ
  have HKK : Hid _ := hK
  have RNH : Hid (∀ s ∈ ss, s.rd ≠ []) := hRN
  have HW := H.below hP.bel
  have a0 := HW.ev r.s l r.k t e x 0 _ L3.out T3.out hx0 rfl
  have a1 := HW.ev r.s l r.k t e x 1 _ L3.out T3.out hx0 rfl
  have a2 := HW.ev r.s l r.k t e x 2 _ L3.out T3.out hx0 rfl
  have a3 := HW.ev r.s l r.k t e x 3 _ L3.out T3.out hx0 rfl
  simp only [Nat.add_zero] at a0
  have hte := O.small3 l (List.mem_of_getElem? hl0) t (List.mem_of_getElem? ht0)
  have hlte : e < t.evs.length := (List.getElem?_eq_some_iff.mp hx0).1
  have hxx : x.x < 900 := (hvb _ _ _ _ HAT.out).2
  obtain ⟨bE, hbE⟩ : ∃ z, z = wr.heap.size := ⟨_, rfl⟩
  have PA : Hid (Pcs w (wr.alloc (.cells #[.int .u8 x.k, .int .u64 x.x, .int .u64 x.v, .bool x.i] 37)) (LE w R.top hs.length cap A fC nV fV bF zs bN NS g G J0 sg ss og os TX NM bO om sm T ++ [([bA], BlkIs bA 105 #[.int .i64 r.s, .int .i64 r.k])] ++ [([bE], BlkIs bE 37 #[.int .u8 x.k, .int .u64 x.x, .int .u64 x.v, .bool x.i])])) := by
    rw [hbE]
    exact P9.out.add (Upd.alloc [] _ _) (by simp) [wr.heap.size] _ (Blk.new _ _ _) (BlkIs.keeps _ _ _) (by simp) (by simp)
  clear H O W RO MF0 hA hp nmi hvb
  clear hl0 ht0 hx0 hat0 hcm0
  clear hP hE hT hJ HW P9
  conv => arg 2; whnf
  go_upto_region 52 with fail
  obtain ⟨W1, hW1⟩ : ∃ z : World, z = wr.alloc (.cells #[.int .u8 x.k, .int .u64 x.x, .int .u64 x.v, .bool x.i] 37) := ⟨_, rfl⟩
  rw [← hW1] at PA ⊢
  rw [← hbE]
  clear hW1 hbE a0 a1 a2 a3
  have bE7 : Blk W1 bE 37 #[.int .u8 x.k, .int .u64 x.x, .int .u64 x.v, .bool x.i] := PA.out.mem (i := 12) rfl
  have e1 : W1.cell? ⟨bE, 1, none⟩ = some (.int .u64 x.x) := bE7.cell 1
  clear bE7
  obtain ⟨ov, hov⟩ : ∃ z : Value, z = ((om x.x).map (ik .i64)).getD (.int .i64 0) := ⟨_, rfl⟩
  obtain ⟨ob, hob⟩ : ∃ z : Bool, z = ((om x.x).map (ik .i64)).isSome := ⟨_, rfl⟩
  have HOV : Hid (ov = ((om x.x).map (ik .i64)).getD (.int .i64 0)) := hov
  have HOB : Hid (ob = ((om x.x).map (ik .i64)).isSome) := hob
  clear hov hob
  go_upto_if 223 with (at_lookup; refine wpList_look2 rfl (.tmp 216) (.tmp 218) 136 rfl Ybaz.underlying136 key35 bO _ (PA.out.mem (i := 8) rfl) x.x zero3 rfl rfl ov ob HOV.out.symm HOB.out.symm ?_)
  clear e1
  rename_i Kc hKc
  have HKc : Hid _ := hKc
  clear hKc
  refine wp_cutC [none, none, none, none, none, none, none, none, none, none, none, none, none, none, none, none, none, none, none, none, none, none, none, none, none, none, none, none, none, none, none, some (some false), none, none, none, none, none, none, none, none, none, none, none, none, none, none, none, none, none, none, none, none, none, none, none, none, none, none, none, none, none, none, none, none, none, none, none, none, none, none, none, none, none, none, none, none, none, none, none, none, none, none, none, none, none, none, none, none, none, none, none, none, none, none, none, none, none, none, none, none, none, none, none, none, none, none, none, none, none, none, none, none, none, none, none, none, none, none, none, none, none, none, none, none, none, none, none, none, none, none, none, none, none, none, none, none, none, none, none, none, none, none, none, none, none, none, none, none, none, none, none, none, none, none, none, none, none, none, none, none, none, none, none, none, none, none, none, none, none, none, none, none, none, none, none, none, none, none, none, none, none, none, none, none, none, none, none, none, none, none, none, none, none, none, none, none, none, none, none, none, none, none, none, none, none, none, none, none, none, none, none, none, none, none, none, none, none, none, none, none, none, none, none, none, some none, some none, some none, some none, some none, some none, some none, some none, some none, some none, some none, some none, some none, some none, some none, some none, some none, some none, some none, none, none, none, none, none, none, none, none, none, none, none, none, none, none, none, none, none, none, none, none, none, none, none, none, none, none, none, none, none, none, none, none, none, none, none, none, none, none, none, none, none, none, none, none, none, none, none, none, none, none, none, none, none, none, none, none, none, none, none, none, none, none, none, none, none, none, none, none, none, none, none, none, none, none, none, none, none, none, none, none, none, none, none, none, none, none, none, none, none, none, none, none, none, none, none, none, none, none, none, none, none, none, none, none, none, none, none, none, none, none, none, none, none, none, none, none, none, none, none, none, none, none, none, none, none, none, none, none, none, none, none, none, none, none, none, none, none, none, none, none, none, none, none, none, none, none, none, none, none, none, none, none, none, none, none, none, none, none, none, none, none, none, none, none, none, none, none, none, none, none, none, none, none, none, none, none, none, none, none, none, none, none, none, none, none, none, none, none, none, none, none, none, none, none, none, none, none, none, none, none, none, none, none, none, none, none, none, none, none, none, none, none, none, none, none, none, none, none, none, none, none, none, none, none, none, none, none, none, none, none, none, none, none, none, none, none, none, none, none, none, none, none, none, none, none, none, none, none, none, none, none, none, none, none, none, none, none, none, none, none, none, none, none, none] (fun x31 _ wc => ∃ (n : Nat) (g : GG) (og : OG) (os : List Ob) (om : Nat → Option Nat) (vars : List Nat), x31 = .int .i64 n ∧ om x.x = some n ∧ Pcs w wc (LE w R.top hs.length cap A fC nV fV bF zs bN NS g G J0 sg ss og os TX NM bO om sm T ++ [([bA], BlkIs bA 105 #[.int .i64 r.s, .int .i64 r.k])] ++ [([bE], BlkIs bE 37 #[.int .u8 x.k, .int .u64 x.x, .int .u64 x.v, .bool x.i])]) ∧ EI hs F A zs NM v e om sm vars vers os ss G (v * 4000 + 3 * e + 1)) ?_ ?_
  · as_aux_lemma =>
    intro J8 K8 hJ8 hK8
    have HJ8 : Hid _ := hJ8
    clear hJ8
    rcases hom : om x.x with _ | n
    · as_aux_lemma =>
      have eb : ob = false := by rw [HOB.out, hom]; rfl
      have ev : ov = .int .i64 0 := by rw [HOV.out, hom]; rfl
      subst eb
      subst ev
      have HOM : Hid (om x.x = none) := hom
      clear hom
      have bE7 : Blk W1 bE 37 #[.int .u8 x.k, .int .u64 x.x, .int .u64 x.v, .bool x.i] := PA.out.mem (i := 12) rfl
      have e1 : W1.cell? ⟨bE, 1, none⟩ = some (.int .u64 x.x) := bE7.cell 1
      have PG : Poly (bN + 1) bN bF A.length g G J0 sg ss og os W1 := PA.out.mem (i := 5) rfl
      have d5 : W1.cell? ⟨bN + 1, 5, none⟩ = some (.slice og.a os.length og.c) := (PG.cell (j := 5) rfl).1
      have hfo := E9.out.fewO
      have MO : Hid (MapAt W1 (ik .u64) bO (fun y => (om y).map (ik .i64))) := PA.out.mem (i := 8) rfl
      clear PG bE7
      go_upto_region 56 with (at_mapUpdate; refine wpList_put rfl (.tmp 229) (.tmp 231) (.tmp 232) 136 rfl Ybaz.underlying136 key35 bO _ MO.out x.x (.int .i64 os.length) rfl rfl rfl ?_; intro w2 m2 u2; have M2 : Hid _ := m2; have U2 : Hid _ := u2; clear m2 u2)
      rw [put_none]
      have PB : Hid (Pcs w w2 (LE w R.top hs.length cap A fC nV fV bF zs bN NS g G J0 sg ss og os TX NM bO (fun z => if z = x.x then some os.length else om z) sm T ++ [([bA], BlkIs bA 105 #[.int .i64 r.s, .int .i64 r.k])] ++ [([bE], BlkIs bE 37 #[.int .u8 x.k, .int .u64 x.x, .int .u64 x.v, .bool x.i])])) := PA.out.put (i := 8) rfl U2.out (P' := fun z => MapAt z (ik .u64) bO (fun y => ((fun z => if z = x.x then some os.length else om z) y).map (ik .i64))) (M2.out.congr (fun y => by by_cases c : y = x.x <;> simp [c, ik])) (mapKeeps _ _ _) (fun k hk => ⟨.inl hk, by simp at hk; subst hk; exact M2.out.lt⟩) (by simp)
      clear e1 d5 MO M2 U2 PA
      have PG : Poly (bN + 1) bN bF A.length g G J0 sg ss og os w2 := PB.out.mem (i := 5) rfl
      have d5 : w2.cell? ⟨bN + 1, 5, none⟩ = some (.slice og.a os.length og.c) := (PG.cell (j := 5) rfl).1
      have f5 := (PG.cell (j := 5) rfl).2
      have hlt5 : bN + 1 < w2.heap.size := World.block_lt_of_cell? _ _ d5
      have hnf : bN + 1 ∉ og.fO := fun hm => by
        have := PG.nd
        simp only [polyFp, List.nodup_cons, List.mem_append, not_or] at this
        exact this.1.2.2 (by simp [OG.foot, hm])
      obtain ⟨gR, cR, w3, hrun, hS3, hU3, hF3⟩ := run_appended w2 (w2.alloc (.cells #[.slice none 0 0, .slice none 0 0, .slice none 0 0] 139)) 90 90 139 3 72 slObs (by decide) og.a os.length og.c og.fO _ PG.ob.top [.slice none 0 0, .slice none 0 0, .slice none 0 0] rfl (by intro u hu; simp at hu; subst hu; rfl) (by omega) (Upd.refl _ _)
      obtain ⟨g', og', r1, r2, r3⟩ := PG.objNew hS3 hU3 hF3
      have k5 : w3.cell? ⟨bN + 1, 5, none⟩ = some (.slice og.a os.length og.c) := hU3.cell d5 hnf
      have j5 := hU3.free hlt5 f5 hnf
      have PC : Hid (Pcs w (w3.setCell ⟨bN + 1, 5, none⟩ (.slice (some ⟨gR, 0, none⟩) (os.length + 1) cR)) (LE w R.top hs.length cap A fC nV fV bF zs bN NS g' G J0 sg ss og' (os ++ [⟨[], [], []⟩]) TX NM bO (fun z => if z = x.x then some os.length else om z) sm T ++ [([bA], BlkIs bA 105 #[.int .i64 r.s, .int .i64 r.k])] ++ [([bE], BlkIs bE 37 #[.int .u8 x.k, .int .u64 x.x, .int .u64 x.v, .bool x.i])])) := PB.out.put (i := 5) rfl r2 r1 (Poly.keeps _ _ _ _ _ _ _ _ _ _ _) r3 r1.nd
      have hbs3 := bs90
      clear PG hS3 hU3 hF3 r1 r2 r3 PB f5 hnf
      go_wp2_with fail
      refine Met.intro ?_
      refine HJ8.out _ _ ?_
      refine MeetC.of (.int .i64 os.length) undef ?_ ?_
      · rfl
      refine ⟨os.length, g', og', os ++ [⟨[], [], []⟩], (fun z => if z = x.x then some os.length else om z), vars ++ [x.x], rfl, by simp, ?_, ?_⟩
      · exact PC.out
      · exact E9.out.obj HOM.out hxx
    · as_aux_lemma =>
      have eb : ob = true := by rw [HOB.out, hom]; rfl
      have ev : ov = .int .i64 n := by rw [HOV.out, hom]; rfl
      subst eb
      subst ev
      have HOM : Hid (om x.x = some n) := hom
      clear hom
      go_wp2_with fail
      refine Met.intro ?_
      refine HJ8.out _ _ ?_
      refine MeetC.of (.int .i64 n) undef ?_ ?_
      · rfl
      exact ⟨n, g, og, os, om, vars, rfl, HOM.out, PA.out, E9.out.up (by omega)⟩
  · as_aux_lemma =>
    intro u8 x8 y8 wc hcut
    obtain ⟨n, g, og, os, om, vars, rfl, hn, h1, h2⟩ := hcut
    dsimp only [fillC, Nat.reduceAdd]
    refine HKc.out _ _ ?_
    rcases O'.out.kind _ _ _ _ HAT.out with hk | hk
    · cases hi : x.i with
      | true => exact evI57 w R hs cap A fC nV fV bF zs bN NS J0 TX NM bO F b H'.out O'.out WW.out RO'.out MF.out HAR.out h12 ZP.out NI.out HVB.out hV g G sg ss og os om sm T vars vers v e bA r l t x L3.out T3.out HX0.out AT.out CM.out hv bE n hn hk hi wc h1 h2 TI9.out RNH.out J K' Q' (fun a' w' hm => by obtain ⟨u, x1, y1, ⟨g, G, sg, ss, og, os, sm, vers, T, q1, q2, q3, q4⟩, rfl⟩ := hm; dsimp only [fillC, Nat.reduceAdd]; exact HJ.out _ _ (MeetC.of undef undef rfl ⟨g, G, sg, ss, og, os, om, sm, vars, vers, T, q1, q2, q3, q4⟩)) HKK.out
      | false => exact evR57 w R hs cap A fC nV fV bF zs bN NS J0 TX NM bO F b H'.out O'.out WW.out RO'.out MF.out HAR.out h12 ZP.out NI.out HVB.out hV g G sg ss og os om sm T vars vers v e bA r l t x L3.out T3.out HX0.out AT.out CM.out hv bE n hn hk hi wc h1 h2 TI9.out RNH.out J K' Q' (fun a' w' hm => by obtain ⟨u, x1, y1, ⟨g, G, sg, ss, og, os, sm, vers, T, q1, q2, q3, q4⟩, rfl⟩ := hm; dsimp only [fillC, Nat.reduceAdd]; exact HJ.out _ _ (MeetC.of undef undef rfl ⟨g, G, sg, ss, og, os, om, sm, vars, vers, T, q1, q2, q3, q4⟩)) HKK.out
    · have hi := O'.out.wi _ _ _ _ HAT.out hk
      exact evW57 w R hs cap A fC nV fV bF zs bN NS J0 TX NM bO F b H'.out O'.out WW.out RO'.out MF.out HAR.out h12 ZP.out NI.out HVB.out hV g G sg ss og os om sm T vars vers v e bA r l t x L3.out T3.out HX0.out AT.out CM.out hv bE n hn hk hi wc h1 h2 TI9.out RNH.out J K' Q' (fun a' w' hm => by obtain ⟨u, x1, y1, ⟨g, G, sg, ss, og, os, sm, vers, T, q1, q2, q3, q4⟩, rfl⟩ := hm; dsimp only [fillC, Nat.reduceAdd]; exact HJ.out _ _ (MeetC.of undef undef rfl ⟨g, G, sg, ss, og, os, om, sm, vars, vers, T, q1, q2, q3, q4⟩)) HKK.out
end Go.Proofs.YbulkctquGreatFmt

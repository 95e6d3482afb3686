/-
  newSessionPolygraph: evW57.
-/
import Derived.Test.YbulkctquGreatFmtNspM
import Derived.Test.YbulkctquGreatFmtFlh
import Derived.Test.YbulkctquGreatFmtLex
import Derived.Deep.RegionHeld3
import Derived.Test.YbulkctquGreatFmtOver
import Derived.Deep.RegionWith
import Derived.BigQuiet
import Derived.Deep.DeepCutAuto
namespace Go.Proofs.YbulkctquGreatFmt
open Go.ChangeShapes Go.WideShapes Go.ChangeAt Go.RowKit Go.Ord
set_option linter.unusedVariables false
attribute [-go_sem] Go.Builtin.append_ Go.Instr.buildSlice
set_option maxHeartbeats 16000000 in
set_option maxRecDepth 100000 in
theorem evW57 {u0 u2 u3 u4 u5 u6 u7 u8 u9 u10 u11 u12 u13 u14 u16 u17 u19 u21 u22 u23 u24 u29 u32 u33 u34 u35 u36 u37 u38 u39 u40 u41 u42 u43 u44 u45 u46 u47 u48 u49 u50 u51 u52 u53 u54 u55 u56 u57 u58 u59 u60 u61 u62 u63 u64 u65 u66 u67 u68 u69 u70 u71 u72 u73 u74 u75 u76 u77 u78 u79 u80 u81 u82 u83 u84 u85 u86 u87 u88 u89 u90 u91 u92 u93 u94 u95 u96 u97 u98 u99 u100 u101 u102 u103 u104 u105 u106 u107 u108 u109 u110 u111 u112 u113 u114 u115 u116 u117 u118 u119 u120 u121 u122 u123 u124 u125 u126 u127 u128 u129 u130 u131 u132 u133 u134 u135 u136 u137 u138 u139 u140 u141 u142 u143 u144 u145 u146 u147 u148 u149 u150 u151 u152 u153 u154 u155 u156 u157 u158 u159 u160 u161 u162 u163 u164 u165 u166 u167 u168 u169 u170 u171 u172 u173 u174 u175 u176 u177 u178 u179 u180 u181 u182 u183 u184 u185 u186 u187 u188 u189 u190 u191 u192 u193 u194 u195 u196 u197 u198 u199 u200 u201 u202 u203 u204 u205 u206 u207 u208 u209 u210 u211 u212 u213 u214 u215 u216 u217 u218 u219 u220 u221 u222 u223 u224 u225 u226 u227 u228 u229 u230 u231 u232 u233 u234 u235 u236 u237 u238 u239 u240 u241 u242 u243 u244 u245 u246 u247 u248 u249 u250 u251 u252 u253 u254 u255 u256 u257 u258 u259 u260 u261 u262 u263 u264 u265 u266 u267 u268 u269 u270 u271 u272 u273 u274 u275 u276 u277 u278 u279 u280 u281 u282 u283 u284 u285 u286 u287 u288 u289 u290 u291 u292 u293 u294 u295 u296 u297 u298 u299 u300 u301 u302 u303 u304 u305 u306 u307 u308 u309 u310 u311 u312 u313 u314 u315 u316 u317 u318 u319 u320 u321 u322 u323 u324 u325 u326 u327 u328 u329 u330 u331 u332 u333 u334 u335 u336 u337 u338 u339 u340 u341 u342 u343 u344 u345 u346 u347 u348 u349 u350 u351 u352 u353 u354 u355 u356 u357 u358 u359 u360 u361 u362 u363 u364 u365 u366 u367 u368 u369 u370 u371 u372 u373 u374 u375 u376 u377 u378 u379 u380 u381 u382 u383 u384 u385 u386 u387 u388 u389 u390 u391 u392 u393 u394 u395 u396 u397 u398 u399 u400 u401 u402 u403 u404 u405 u406 u407 u408 u409 u410 u411 u412 u413 u414 u415 u416 u417 u418 u419 u420 u421 u422 u423 u424 u425 u426 u427 u428 u429 u430 u431 u432 u433 u434 u435 u436 u437 u438 u439 u440 u441 u442 u443 u444 u445 u446 u447 u448 u449 u450 u451 u452 u453 u454 u455 u456 u457 u458 u459 u460 u461 u462 u463 u464 u465 u466 u467 u468 u469 u470 u471 u472 u473 u474 u475 u476 u477 u478 u479 u480 u481 u482 u483 u484 u485 u486 u487 u488 u489 u490 u491 u492 u493 u494 u495 u496 u497 u498 u499 u500 u501 u502 u503 u504 u505 u506 : Value} (w : World) (R : HR) (hs : List (List Tx)) (cap : Nat) (A : List Rk) (fC : List Nat) (nV : Nat) (fV : List Nat) (bF : Nat) (zs : List Nat) (bN : Nat) (NS : List (List UInt8)) (J0 : List Bool) (TX : List (Nat × Nat)) (NM : Nat × Nat → Option Nat) (bO : Nat) (F : Nat → Option Wr) (b : Nat) (H : HistE w R hs) (O : HOk hs) (W : WF hs F) (RO : ROk hs) (MF0 : MapAt w (ik .u64) b (fun v => (F v).map Wr.val)) (hA : A = rksAll 0 hs) (h12 : A.length ≤ 12) (hp : zs.Perm (List.range A.length)) (nmi : NMI A zs A.length NM) (hvb : ∀ s k e x, At hs s k e x → x.v < 900 ∧ x.x < 900) (hV : nV ≤ 10000) (g : GG) (G : List (List Nat)) (sg : SG) (ss : List Sr) (og : OG) (os : List Ob) (om sm : Nat → Option Nat) (T vars vers : List Nat) (v e bA : Nat) (r : Rk) (l : List Tx) (t : Tx) (x : Ev) (hl0 : hs[r.s]? = some l) (ht0 : l[r.k]? = some t) (hx0 : t.evs[e]? = some x) (hat0 : (ats A zs)[v]? = some (r.s, r.k)) (hcm0 : Cm hs r.s r.k) (hv : v < A.length) (bE n : Nat) (hn0 : om x.x = some n) (hk0 : x.k = 1) (hi0 : x.i = false) (wc : World) (hP : Pcs w wc (LE w R.top hs.length cap A fC nV fV bF zs bN NS g G J0 sg ss og os TX NM bO om sm T ++ [([bA], BlkIs bA 105 #[.int .i64 r.s, .int .i64 r.k])] ++ [([bE], BlkIs bE 37 #[.int .u8 x.k, .int .u64 x.x, .int .u64 x.v, .bool x.i])])) (hE : EI hs F A zs NM v e om sm vars vers os ss G (v * 4000 + 3 * e + 1)) (hT : ∀ y, y ∈ T ↔ IniD hs A zs v e y v) (hRN : ∀ s ∈ ss, s.rd ≠ []) (J K' : Act → World → Prop) (Q' : Exit → Act → World → Prop)
    (hJ : ∀ a' w', MeetC [none, none, none, none, none, none, none, none, none, none, none, none, none, none, none, none, none, none, none, none, none, none, none, none, none, none, none, none, none, none, none, none, none, some none, some none, some none, some none, some none, some none, none, none, none, none, none, none, none, none, none, none, none, none, none, none, none, none, none, none, none, none, none, none, none, none, none, none, none, none, none, none, none, none, none, none, none, none, none, none, none, none, none, none, none, none, none, none, none, none, none, none, none, none, none, none, none, none, none, none, none, none, none, none, none, none, none, none, none, none, none, none, none, none, none, none, none, none, none, none, none, none, none, none, none, none, none, none, none, none, none, none, none, none, none, none, none, none, none, none, none, none, none, none, none, none, none, none, none, none, none, none, none, none, none, none, none, none, none, none, none, none, none, none, none, none, none, none, none, none, none, none, none, none, none, none, none, none, none, none, none, none, none, none, none, none, none, none, none, none, none, none, none, none, none, none, none, none, none, none, none, none, none, none, none, none, none, none, none, none, none, none, none, none, none, none, none, none, none, none, none, none, none, none, none, none, none, none, none, none, none, none, none, none, none, none, none, none, none, none, none, none, none, none, none, none, some none, some none, some none, some none, some none, some none, some none, some none, some none, some none, some none, some none, some none, some none, some none, some none, some none, some none, some none, some none, some none, some none, some none, some none, some none, some none, some none, some none, some none, some none, some none, some none, some none, some none, some none, some none, some none, some none, some none, some none, some none, some none, some none, some none, some none, some none, some none, some none, some none, some none, some none, some none, some none, some none, some none, some none, some none, some none, some none, some none, some none, some none, some none, some none, some none, some none, some none, some none, some none, some none, some none, some none, some none, some none, some none, some none, some none, some none, some none, some none, some none, some none, some none, some none, some none, some none, some none, some none, some none, some none, some none, some none, some none, some none, some none, some none, some none, some none, some none, some none, some none, some none, some none, some none, some none, some none, some none, some none, some none, some none, some none, some none, some none, some none, some none, some none, some none, some none, some none, some none, some none, some none, some none, some none, some none, some none, some none, some none, some none, some none, some none, some none, some none, some none, some none, some none, some none, some none, some none, some none, some none, some none, some none, some none, some none, some none, some none, some none, some none, some none, some none, some none, some none, some none, some none, some none, some none, some none, some none, some none, some none, some none, some none, some none, some none, none, none, none, none, none, none, none, none, none, none, none, none, none, none, none, none, none, none, none, none, none, none, none, none, none, none, none, none, none, none, none, none, none, none, none, none, none, none, none, none, none, none, none, none, none, none, none, none, none, none, none, none, none, none, none, none, none, none, none, none, none, none, none, none, none, none, none, none, none, none, none, none, none, none, none, none, none, none, none, none, none, none, none, none, none, none, none, none, none, none, none, none, none, none, none, none, none, none, none] [u0, .map (some b), u2, u3, u4, u5, u6, u7, u8, u9, u10, u11, u12, u13, u14, .func (.func 29) #[] #[.pointer (some ⟨w.heap.size + 2, 0, none⟩)], u16, u17, .pointer (some ⟨bN + 1, 0, none⟩), u19, .map (some (bN + 3)), u21, u22, u23, u24, .map (some (bO + 1)), .map (some (bO + 2)), .int .i64 v, .pointer (some ⟨bA, 0, none⟩), u29, .pointer (some ⟨bE, 0, none⟩), .int .i64 n, u32, u33, u34, u35, u36, u37, u38, u39, u40, u41, u42, u43, u44, u45, u46, u47, u48, u49, u50, u51, u52, u53, u54, u55, u56, u57, u58, u59, u60, u61, u62, u63, u64, u65, u66, u67, u68, u69, u70, u71, u72, u73, u74, u75, u76, u77, u78, u79, u80, u81, u82, u83, u84, u85, u86, u87, u88, u89, u90, u91, u92, u93, u94, u95, u96, u97, u98, u99, u100, u101, u102, u103, u104, u105, u106, u107, u108, u109, u110, u111, u112, u113, u114, u115, u116, u117, u118, u119, u120, u121, u122, u123, u124, u125, u126, u127, u128, u129, u130, u131, u132, u133, u134, u135, u136, u137, u138, u139, u140, u141, u142, u143, u144, u145, u146, u147, u148, u149, u150, u151, u152, u153, u154, u155, u156, u157, u158, u159, u160, u161, u162, u163, u164, u165, u166, u167, u168, u169, u170, u171, u172, u173, u174, u175, u176, u177, u178, u179, u180, u181, u182, u183, u184, u185, u186, u187, u188, u189, u190, u191, u192, u193, u194, u195, u196, u197, u198, u199, u200, u201, u202, u203, u204, u205, u206, u207, u208, u209, u210, u211, u212, u213, u214, u215, u216, u217, u218, u219, u220, u221, u222, u223, u224, u225, u226, u227, u228, u229, u230, u231, u232, u233, u234, u235, u236, u237, u238, u239, u240, u241, u242, u243, u244, u245, u246, u247, u248, u249, u250, u251, u252, u253, u254, u255, u256, u257, u258, u259, u260, u261, u262, u263, u264, u265, u266, u267, u268, u269, u270, u271, u272, u273, u274, u275, u276, u277, u278, u279, u280, u281, u282, u283, u284, u285, u286, u287, u288, u289, u290, u291, u292, u293, u294, u295, u296, u297, u298, u299, u300, u301, u302, u303, u304, u305, u306, u307, u308, u309, u310, u311, u312, u313, u314, u315, u316, u317, u318, u319, u320, u321, u322, u323, u324, u325, u326, u327, u328, u329, u330, u331, u332, u333, u334, u335, u336, u337, u338, u339, u340, u341, u342, u343, u344, u345, u346, u347, u348, u349, u350, u351, u352, u353, u354, u355, u356, u357, u358, u359, u360, u361, u362, u363, u364, u365, u366, u367, u368, u369, u370, u371, u372, u373, u374, u375, u376, u377, u378, u379, u380, u381, u382, u383, u384, u385, u386, u387, u388, u389, u390, u391, u392, u393, u394, u395, u396, u397, u398, u399, u400, u401, u402, u403, u404, u405, u406, u407, u408, u409, u410, u411, u412, u413, u414, u415, u416, u417, u418, u419, u420, u421, u422, u423, u424, u425, u426, u427, u428, u429, u430, u431, u432, u433, u434, u435, u436, u437, u438, u439, u440, u441, u442, u443, u444, u445, u446, u447, u448, u449, u450, u451, u452, u453, u454, u455, u456, u457, u458, u459, u460, u461, u462, u463, u464, u465, u466, u467, u468, u469, u470, u471, u472, u473, u474, u475, u476, u477, u478, u479, u480, u481, u482, u483, u484, u485, u486, u487, u488, u489, u490, u491, u492, u493, u494, u495, u496, u497, u498, u499, u500, u501, u502, u503, u504, u505, u506] [] (fun _ _ wc => ∃ (g : GG) (G : List (List Nat)) (sg : SG) (ss : List Sr) (og : OG) (os : List Ob) (sm : Nat → Option Nat) (vers T : List Nat), Pcs w wc (LE w R.top hs.length cap A fC nV fV bF zs bN NS g G J0 sg ss og os TX NM bO om sm T ++ [([bA], BlkIs bA 105 #[.int .i64 r.s, .int .i64 r.k])]) ∧ EI hs F A zs NM v (e + 1) om sm vars vers os ss G (v * 4000 + 3 * (e + 1)) ∧ (∀ y, y ∈ T ↔ IniD hs A zs v (e + 1) y v) ∧ (∀ s ∈ ss, s.rd ≠ [])) a' w' → J a' w') (hK : ∀ a' w', Met J a' w' → K' a' w') : c57.wp Ybaz.prog (Exit.inBlock 13 (Exit.then K' Q')) ⟨[u0, .map (some b), u2, u3, u4, u5, u6, u7, u8, u9, u10, u11, u12, u13, u14, .func (.func 29) #[] #[.pointer (some ⟨w.heap.size + 2, 0, none⟩)], u16, u17, .pointer (some ⟨bN + 1, 0, none⟩), u19, .map (some (bN + 3)), u21, u22, u23, u24, .map (some (bO + 1)), .map (some (bO + 2)), .int .i64 v, .pointer (some ⟨bA, 0, none⟩), u29, .pointer (some ⟨bE, 0, none⟩), .int .i64 n, u32, u33, u34, u35, u36, u37, u38, u39, u40, u41, u42, u43, u44, u45, u46, u47, u48, u49, u50, u51, u52, u53, u54, u55, u56, u57, u58, u59, u60, u61, u62, u63, u64, u65, u66, u67, u68, u69, u70, u71, u72, u73, u74, u75, u76, u77, u78, u79, u80, u81, u82, u83, u84, u85, u86, u87, u88, u89, u90, u91, u92, u93, u94, u95, u96, u97, u98, u99, u100, u101, u102, u103, u104, u105, u106, u107, u108, u109, u110, u111, u112, u113, u114, u115, u116, u117, u118, u119, u120, u121, u122, u123, u124, u125, u126, u127, u128, u129, u130, u131, u132, u133, u134, u135, u136, u137, u138, u139, u140, u141, u142, u143, u144, u145, u146, u147, u148, u149, u150, u151, u152, u153, u154, u155, u156, u157, u158, u159, u160, u161, u162, u163, u164, u165, u166, u167, u168, u169, u170, u171, u172, u173, u174, u175, u176, u177, u178, u179, u180, u181, u182, u183, u184, u185, u186, u187, u188, u189, u190, u191, u192, u193, u194, u195, u196, u197, u198, u199, u200, u201, u202, u203, u204, u205, u206, u207, u208, u209, u210, u211, u212, u213, u214, u215, u216, u217, u218, u219, u220, u221, u222, u223, u224, u225, u226, u227, u228, u229, u230, u231, u232, u233, u234, u235, u236, u237, u238, u239, u240, u241, u242, u243, u244, u245, u246, u247, u248, u249, u250, u251, u252, u253, u254, u255, u256, u257, u258, u259, u260, u261, u262, u263, u264, u265, u266, u267, u268, u269, u270, u271, u272, u273, u274, u275, u276, u277, u278, u279, u280, u281, u282, u283, u284, u285, u286, u287, u288, u289, u290, u291, u292, u293, u294, u295, u296, u297, u298, u299, u300, u301, u302, u303, u304, u305, u306, u307, u308, u309, u310, u311, u312, u313, u314, u315, u316, u317, u318, u319, u320, u321, u322, u323, u324, u325, u326, u327, u328, u329, u330, u331, u332, u333, u334, u335, u336, u337, u338, u339, u340, u341, u342, u343, u344, u345, u346, u347, u348, u349, u350, u351, u352, u353, u354, u355, u356, u357, u358, u359, u360, u361, u362, u363, u364, u365, u366, u367, u368, u369, u370, u371, u372, u373, u374, u375, u376, u377, u378, u379, u380, u381, u382, u383, u384, u385, u386, u387, u388, u389, u390, u391, u392, u393, u394, u395, u396, u397, u398, u399, u400, u401, u402, u403, u404, u405, u406, u407, u408, u409, u410, u411, u412, u413, u414, u415, u416, u417, u418, u419, u420, u421, u422, u423, u424, u425, u426, u427, u428, u429, u430, u431, u432, u433, u434, u435, u436, u437, u438, u439, u440, u441, u442, u443, u444, u445, u446, u447, u448, u449, u450, u451, u452, u453, u454, u455, u456, u457, u458, u459, u460, u461, u462, u463, u464, u465, u466, u467, u468, u469, u470, u471, u472, u473, u474, u475, u476, u477, u478, u479, u480, u481, u482, u483, u484, u485, u486, u487, u488, u489, u490, u491, u492, u493, u494, u495, u496, u497, u498, u499, u500, u501, u502, u503, u504, u505, u506].toArray, []⟩ wc := by
  have H' : Hid _ := H
  have O' : Hid _ := O
  have WW : Hid _ := W
  have RO' : Hid _ := RO
  have MF : Hid _ := MF0
  have HAR : Hid (A = rksAll 0 hs) := hA
  have ZP : Hid (zs.Perm (List.range A.length)) := hp
  have NI : Hid _ := nmi
  have HVB : Hid (∀ s k e x, At hs s k e x → x.v < 900 ∧ x.x < 900) := hvb
  have hbw : b < w.heap.size := MF0.lt
  have L3 : Hid (hs[r.s]? = some l) := hl0
  have T3 : Hid (l[r.k]? = some t) := ht0
  have HX0 : Hid (t.evs[e]? = some x) := hx0
  have AT : Hid ((ats A zs)[v]? = some (r.s, r.k)) := hat0
  have CM : Hid (Cm hs r.s r.k) := hcm0
  have HAT : Hid (At hs r.s r.k e x) := ⟨l, t, hl0, ht0, hx0⟩
  have HEN : Hid (EvN hs A zs v e x) := ⟨(r.s, r.k), hat0, l, t, hl0, ht0, hx0⟩
  have HN : Hid (om x.x = some n) := hn0
  have HK : Hid (x.k = 1) := hk0
  have HI : Hid (x.i = false) := hi0
  have P9 : Hid _ := hP
  have E9 : Hid _ := hE
  have TI9 : Hid (∀ y, y ∈ T ↔ IniD hs A zs v e y v) := hT
  have HJ7 : Hid _ := hJ
  have RNH : Hid (∀ s ∈ ss, s.rd ≠ []) := hRN
  clear H O W RO MF0 hA hp nmi hvb
  clear hl0 ht0 hx0 hat0 hcm0
  clear hn0 hk0 hi0 hP hE hT hJ hRN
  have hnl := E9.out.objAt HN.out
  have hfo := E9.out.fewO
  have PG : Poly (bN + 1) bN bF A.length g G J0 sg ss og os wc := P9.out.mem (i := 5) rfl
  have d5 : wc.cell? ⟨bN + 1, 5, none⟩ = some (.slice og.a os.length og.c) := (PG.cell (j := 5) rfl).1
  obtain ⟨o, ho⟩ := has_at os hnl
  obtain ⟨bO9, sO, fO9, ea, _⟩ := PG.ob.row ho 0 (by omega) rfl
  have HO : Hid (os[n]? = some o) := ho
  have HA : Hid (og.a = some ⟨bO9, 0, none⟩) := ea
  rw [ea] at d5
  clear ho ea PG
  conv => arg 2; whnf
  go_upto_region 59 with fail
  clear d5
  obtain ⟨bW, hbW⟩ : ∃ z, z = wc.heap.size := ⟨_, rfl⟩
  have bE7 : Blk wc bE 37 #[.int .u8 x.k, .int .u64 x.x, .int .u64 x.v, .bool x.i] := P9.out.mem (i := 12) rfl
  have hltE : bE < wc.heap.size := bE7.lt
  have hneE : bE ≠ wc.heap.size := by omega
  have e0 : wc.cell? ⟨bE, 0, none⟩ = some (.int .u8 x.k) := bE7.cell 0
  have e1 : wc.cell? ⟨bE, 1, none⟩ = some (.int .u64 x.x) := bE7.cell 1
  have e2 : wc.cell? ⟨bE, 2, none⟩ = some (.int .u64 x.v) := bE7.cell 2
  have e3 : wc.cell? ⟨bE, 3, none⟩ = some (.bool x.i) := bE7.cell 3
  clear bE7
  rw [HK.out] at e0
  rw [HI.out] at e3
  obtain ⟨q, hq1, hq2, hq3, hq4⟩ := WW.out.bwd r.s r.k e x HAT.out HK.out
  have FQ : Hid (F x.v = some q) := hq1
  have FQ2 : Hid (q.s = r.s ∧ q.k = r.k ∧ q.e = e) := ⟨hq2, hq3, hq4⟩
  clear hq1 hq2 hq3 hq4
  have ME : Hid (MapAt (wc.alloc (.cells #[.int .i64 0, .int .i64 0, .int .i64 0, .int .i64 0] 114)) (ik .u64) b (fun v => (F v).map Wr.val)) := (MF.out.below P9.out.bel hbw).keep (Upd.alloc [] _ _) (by simp)
  have PW : Hid (Pcs w (wc.alloc (.cells #[.int .i64 q.s, .int .i64 q.k, .int .i64 q.e, .int .i64 q.n] 114)) (LE w R.top hs.length cap A fC nV fV bF zs bN NS g G J0 sg ss og os TX NM bO om sm T ++ [([bA], BlkIs bA 105 #[.int .i64 r.s, .int .i64 r.k])] ++ [([bE], BlkIs bE 37 #[.int .u8 x.k, .int .u64 x.x, .int .u64 x.v, .bool x.i])] ++ [([wc.heap.size], BlkIs wc.heap.size 114 #[.int .i64 q.s, .int .i64 q.k, .int .i64 q.e, .int .i64 q.n])])) := P9.out.add (Upd.alloc [] _ _) (by simp) [wc.heap.size] _ (Blk.new _ _ _) (BlkIs.keeps _ _ _) (by simp) (by simp)
  go_upto_region 71 with (at_lookup; refine wpList_look1 rfl (.tmp 252) (.tmp 254) 74 rfl Ybaz.underlying74 key35 b _ ME.out x.v zero114 rfl rfl (.agg #[.int .i64 q.s, .int .i64 q.k, .int .i64 q.e, .int .i64 q.n]) (by simp only [FQ.out]; rfl) ?_)
  obtain ⟨W2, hW2⟩ : ∃ z : World, z = wc.alloc (.cells #[.int .i64 q.s, .int .i64 q.k, .int .i64 q.e, .int .i64 q.n] 114) := ⟨_, rfl⟩
  rw [← hW2] at PW ⊢
  rw [← hbW] at PW ⊢
  clear hW2 hbW ME e0 e1 e2 e3 P9 hltE hneE
  have bE7 : Blk W2 bE 37 #[.int .u8 x.k, .int .u64 x.x, .int .u64 x.v, .bool x.i] := PW.out.mem (i := 12) rfl
  have bW7 : Blk W2 bW 114 #[.int .i64 q.s, .int .i64 q.k, .int .i64 q.e, .int .i64 q.n] := PW.out.mem (i := 13) rfl
  have e0 : W2.cell? ⟨bE, 0, none⟩ = some (.int .u8 1) := by have := bE7.cell 0; rw [this]; simp [HK.out]
  have e2 : W2.cell? ⟨bE, 2, none⟩ = some (.int .u64 x.v) := bE7.cell 2
  have w3 : W2.cell? ⟨bW, 3, none⟩ = some (.int .i64 q.n) := bW7.cell 3
  clear bE7 bW7
  by_cases hqn : q.n < 0
  · as_aux_lemma =>
    have PG : Poly (bN + 1) bN bF A.length g G J0 sg ss og os W2 := PW.out.mem (i := 5) rfl
    obtain ⟨bO8, sv, fR, ea, c1, z1, nv, q4, q5, q6, q7, q8⟩ := PG.ob.row HO.out 0 (by omega) (r := o.wr) rfl
    rw [Nat.add_zero] at c1 z1 q8
    have e9 : bO8 = bO9 := by rw [HA.out] at ea; injection ea with ea; injection ea with ea; exact ea.symm
    subst e9
    have hlt8 : bO8 < W2.heap.size := World.block_lt_of_cell? _ _ c1
    have hwl : o.wr.length ≤ 900 ∧ o.rk.length ≤ 900 := by
      obtain ⟨y, hy⟩ := has_at vars (k := n) (by rw [E9.out.lenO]; exact hnl)
      obtain ⟨i1, i2, _, _, i5⟩ := E9.out.obI n o y HO.out hy
      have := nodup_len A.length o.wr i2 (fun u hu => by
        obtain ⟨i, z, _, hz, _⟩ := (i1 u).mp hu
        obtain ⟨p, hp, _⟩ := hz
        have := (List.getElem?_eq_some_iff.mp hp).1
        rw [ats_len ZP.out] at this; exact this)
      omega
    obtain ⟨gR, cR, w5, hrun, hS5, hU5, hF5⟩ := run_appended W2 (W2.alloc (.cells #[.int .i64 v] 3)) 83 83 3 1 8 slInts (by decide) sv.a sv.n sv.c fR _ q4 [.int .i64 v] rfl (by intro u hu; simp at hu; subst hu; rfl) (by omega) (Upd.refl _ _)
    obtain ⟨og', r1, r2, r3, r4, r5⟩ := q8 gR cR v w5 hS5 hU5 hF5
    obtain ⟨p1, p2, p3⟩ := PG.objPut r1 r2 r3 (by simp) r4 r5
    have k5 : w5.cell? ⟨bO8, n * 3, none⟩ = some (.slice sv.a sv.n sv.c) := hU5.cell c1 q5
    have j5 := hU5.free hlt8 z1 q5
    have HA2 : Hid (og'.a = some ⟨bO8, 0, none⟩) := r2.trans HA.out
    have PC : Hid (Pcs w (w5.setCell ⟨bO8, n * 3, none⟩ (.slice (some ⟨gR, 0, none⟩) (sv.n + 1) cR)) (LE w R.top hs.length cap A fC nV fV bF zs bN NS g G J0 sg ss og' (os.set n (o.put 0 v)) TX NM bO om sm T ++ [([bA], BlkIs bA 105 #[.int .i64 r.s, .int .i64 r.k])] ++ [([bE], BlkIs bE 37 #[.int .u8 x.k, .int .u64 x.x, .int .u64 x.v, .bool x.i])] ++ [([bW], BlkIs bW 114 #[.int .i64 q.s, .int .i64 q.k, .int .i64 q.e, .int .i64 q.n])])) := PW.out.put (i := 5) rfl p2 p1 (Poly.keeps _ _ _ _ _ _ _ _ _ _ _) p3 p1.nd
    have hbs3 := bs83
    clear PG hS5 hU5 hF5 r1 r2 r3 r4 r5 p1 p2 p3 PW q4 q5 q6 q7 q8 z1 nv ea
    go_upto_region 74 with fail
    obtain ⟨W3, hW3⟩ : ∃ z : World, z = w5.setCell ⟨bO8, n * 3, none⟩ (.slice (some ⟨gR, 0, none⟩) (sv.n + 1) cR) := ⟨_, rfl⟩
    rw [← hW3] at PC ⊢
    clear hW3 hrun k5 j5 e0 w3 e2 c1 hlt8
    have PG : Poly (bN + 1) bN bF A.length g G J0 sg ss og' (os.set n (o.put 0 v)) W3 := PC.out.mem (i := 5) rfl
    have HO2 : (os.set n (o.put 0 v))[n]? = some (o.put 0 v) := List.getElem?_set_self hnl
    obtain ⟨bO7, sr, fK, ea, c1, z1, nr, q4, q5, q6, q7, q8⟩ := PG.ob.row HO2 2 (by omega) (r := o.rk) rfl
    have e9 : bO7 = bO8 := by rw [HA2.out] at ea; injection ea with ea; injection ea with ea; exact ea.symm
    subst e9
    have bE7 : Blk W3 bE 37 #[.int .u8 x.k, .int .u64 x.x, .int .u64 x.v, .bool x.i] := PC.out.mem (i := 12) rfl
    have e2 : W3.cell? ⟨bE, 2, none⟩ = some (.int .u64 x.v) := bE7.cell 2
    have hlt7 : bO7 < W3.heap.size := World.block_lt_of_cell? _ _ c1
    have BV : VerU (w.heap.size + 2) nV fV W3 := PC.out.mem (i := 2) rfl
    obtain ⟨aV, cV, v1, v2⟩ := BV
    have KR : Hid (∀ z : Nat, Calls Ybaz.prog 29 #[.int .u64 x.v, .pointer (some ⟨w.heap.size + 2, 0, none⟩)] (W3.drewN z) fun e w' => ∃ rk : Nat, rk ≤ nV ∧ e = .returned (.int .i64 (rk : Int)) ∧ ∃ m, w' = (W3.drewN z).drewN m) := fun z => rank29 (w.heap.size + 2) aV nV cV x.v (by omega) (W3.drewN z) v1 (fun h => by obtain ⟨g, a, _, c⟩ := v2 h; exact ⟨g, a, c.drewN _⟩)
    clear v1 v2
    rw [nr] at c1 q4 q8
    obtain ⟨gK, cK, wK, hK⟩ := append_fn W3 83 3 1 8 slInts (by decide) sr.a o.rk.length sr.c fK _ q4 (fun rk => [.int .i64 (rk : Int)]) (fun _ => rfl) (fun k u hu => by simp at hu; subst hu; rfl) (by omega)
    have hrun : ∀ rk m : Nat, (Builtin.append_ #[83, 83] 83 #[.slice sr.a o.rk.length sr.c, .slice (some ⟨W3.heap.size, 0, none⟩) 1 1]).run Ybaz.prog ((W3.drewN (1 + m)).alloc (.cells #[.int .i64 (rk : Int)] 3)) = .ok (.slice (some ⟨gK rk m, 0, none⟩) (o.rk.length + 1) (cK rk m)) (wK rk m) := fun rk m => (hK rk m).1
    have k5 : ∀ rk m, (wK rk m).cell? ⟨bO7, n * 3 + 2, none⟩ = some (.slice sr.a o.rk.length sr.c) := fun rk m => (hK rk m).2.2.1.cell c1 q5
    have j5 : ∀ rk m, (wK rk m).frozen? ⟨bO7, n * 3 + 2, none⟩ = false := fun rk m => (hK rk m).2.2.1.free hlt7 z1 q5
    have neE : bE ∉ fK := fun hm => PC.out.apart (i := 5) (j := 12) rfl rfl (by decide) bE (by simp only [polyFp, List.mem_cons, List.mem_append]; exact .inr (.inr (.inr (q6 _ hm)))) (by simp)
    have e5 : ∀ rk m, (wK rk m).cell? ⟨bE, 2, none⟩ = some (.int .u64 x.v) := fun rk m => (hK rk m).2.2.1.cell e2 neE
    have PD : Hid (∀ rk m, ∃ og2, Pcs w ((wK rk m).setCell ⟨bO7, n * 3 + 2, none⟩ (.slice (some ⟨gK rk m, 0, none⟩) (o.rk.length + 1) (cK rk m))) (LE w R.top hs.length cap A fC nV fV bF zs bN NS g G J0 sg ss og2 ((os.set n (o.put 0 v)).set n ((o.put 0 v).put 2 rk)) TX NM bO om sm T ++ [([bA], BlkIs bA 105 #[.int .i64 r.s, .int .i64 r.k])] ++ [([bE], BlkIs bE 37 #[.int .u8 x.k, .int .u64 x.x, .int .u64 x.v, .bool x.i])] ++ [([bW], BlkIs bW 114 #[.int .i64 q.s, .int .i64 q.k, .int .i64 q.e, .int .i64 q.n])])) := by
      intro rk m
      obtain ⟨_, s1, u1, f1⟩ := hK rk m
      obtain ⟨og2, r1, r2, r3, r4, r5⟩ := q8 (gK rk m) (cK rk m) rk (wK rk m) s1 u1 f1
      obtain ⟨p1, p2, p3⟩ := PG.objPut r1 r2 r3 (by simp) r4 r5
      exact ⟨og2, PC.out.put (i := 5) rfl p2 p1 (Poly.keeps _ _ _ _ _ _ _ _ _ _ _) p3 p1.nd⟩
    have c1a : ∀ k o', ((W3.drewN k).alloc o').cell? ⟨bO7, n * 3 + 2, none⟩ = some (.slice sr.a o.rk.length sr.c) := fun k o' => (Upd.alloc [] (W3.drewN k) o').cell c1 (by simp)
    clear hK PG PC q4 q5 q6 q7 q8 z1 ea bE7 nr
    have c1d : ∀ k, (W3.drewN k).cell? ⟨bO7, n * 3 + 2, none⟩ = some (.slice sr.a o.rk.length sr.c) := fun _ => c1
    have e2d : ∀ k, (W3.drewN k).cell? ⟨bE, 2, none⟩ = some (.int .u64 x.v) := fun _ => e2
    refine wp_cutQ [none, none, none, none, none, none, none, none, none, none, none, none, none, none, none, none, none, none, none, none, none, none, none, none, none, none, none, none, none, none, none, none, none, none, none, none, none, none, none, none, none, none, none, none, none, none, none, none, none, none, none, none, none, none, none, none, none, none, none, none, none, none, none, none, none, none, none, none, none, none, none, none, none, none, none, none, none, none, none, none, none, none, none, none, none, none, none, none, none, none, none, none, none, none, none, none, none, none, none, none, none, none, none, none, none, none, none, none, none, none, none, none, none, none, none, none, none, none, none, none, none, none, none, none, none, none, none, none, none, none, none, none, none, none, none, none, none, none, none, none, none, none, none, none, none, none, none, none, none, none, none, none, none, none, none, none, none, none, none, none, none, none, none, none, none, none, none, none, none, none, none, none, none, none, none, none, none, none, none, none, none, none, none, none, none, none, none, none, none, none, none, none, none, none, none, none, none, none, none, none, none, none, none, none, none, none, none, none, none, none, none, none, none, none, none, none, none, none, none, none, none, none, none, none, none, none, none, none, none, none, none, none, none, none, none, none, none, none, none, none, none, none, none, none, none, none, none, none, none, none, none, none, none, none, none, none, none, none, none, none, none, none, none, none, none, none, none, none, none, none, none, none, none, none, none, none, none, none, none, none, none, none, none, none, none, none, none, none, none, none, none, none, none, none, none, none, none, none, none, none, none, none, none, none, none, none, none, none, none, none, none, none, none, none, none, none, none, none, none, none, none, none, none, none, none, none, none, none, none, none, none, none, none, none, none, none, none, none, none, none, none, none, none, none, none, none, none, none, none, none, none, none, none, none, none, none, none, none, none, some none, some none, some none, some none, some none, some none, some none, some none, some none, some none, some none, some none, some none, none, none, none, none, none, none, none, none, none, none, none, none, none, none, none, none, none, none, none, none, none, none, none, none, none, none, none, none, none, none, none, none, none, none, none, none, none, none, none, none, none, none, none, none, none, none, none, none, none, none, none, none, none, none, none, none, none, none, none, none, none, none, none, none, none, none, none, none, none, none, none, none, none, none, none, none, none, none, none, none, none, none, none, none, none, none, none, none, none, none, none, none, none, none, none, none, none, none, none, none, none, none, none, none, none, none, none, none, none, none, none, none, none, none, none, none, none, none, none, none, none, none, none, none, none, none, none, none, none, none, none, none, none, none, none] (fun _ _ wc => ∃ (rk : Nat) (og2 : OG), Pcs w wc (LE w R.top hs.length cap A fC nV fV bF zs bN NS g G J0 sg ss og2 ((os.set n (o.put 0 v)).set n ((o.put 0 v).put 2 rk)) TX NM bO om sm T ++ [([bA], BlkIs bA 105 #[.int .i64 r.s, .int .i64 r.k])] ++ [([bE], BlkIs bE 37 #[.int .u8 x.k, .int .u64 x.x, .int .u64 x.v, .bool x.i])] ++ [([bW], BlkIs bW 114 #[.int .i64 q.s, .int .i64 q.k, .int .i64 q.e, .int .i64 q.n])])) ?_ ?_
    · as_aux_lemma =>
      intro J9 K9 hJ9 hK9
      have HJ9 : Hid _ := hJ9
      clear hJ9
      have hS : W3.drew.cell? ⟨bE, 2, none⟩ = some (.int .u64 x.v) ∧ W3.drew.cell? ⟨bO7, n * 3 + 2, none⟩ = some (.slice sr.a o.rk.length sr.c) := ⟨e2, c1⟩
      have HSH : Hid (W3.drew.cell? ⟨bE, 2, none⟩ = some (.int .u64 x.v) ∧ W3.drew.cell? ⟨bO7, n * 3 + 2, none⟩ = some (.slice sr.a o.rk.length sr.c)) := hS
      clear hS
      refine wp_region_noPanic ?_
      refine wp_lex (fun z => z.cell? ⟨bE, 2, none⟩ = some (.int .u64 x.v) ∧ z.cell? ⟨bO7, n * 3 + 2, none⟩ = some (.slice sr.a o.rk.length sr.c)) (fun k => decide (k < 11)) (fun k => decide (k < 8)) (by kernel_rfl) (by kernel_rfl) (by kernel_rfl) (fun _ _ _ _ _ h => h) ?_
      iterate 8 (
        refine LexN.take rfl HSH.out ?_ rfl ?_ ?_
        rotate_left
        · intro z hz
          obtain ⟨hz1, hz2⟩ := hz
          go_simp
          try with_reducible rfl
        simp only [Act.put, List.setIfInBounds_toArray, List.set_cons_zero, List.set_cons_succ])
      refine LexN.step rfl rfl rfl (fun K hK => ?_)
      go_simp
      refine Calls.mono (KR.out 1) ?_
      rintro e' w' ⟨rk, hrk, rfl, m, rfl⟩
      refine hK.out _ _ (fun _ => ⟨e2, c1⟩) ?_
      refine LexN.step rfl rfl rfl (fun K hK => ?_)
      go_simp
      refine hK.out _ _ (fun _ => ⟨(Upd.alloc [] _ _).cell (e2d (1 + m)) (by simp), c1a _ _⟩) ?_
      refine LexN.step rfl rfl rfl (fun K hK => ?_)
      go_simp
      refine hK.out _ _ (fun _ => ⟨e5 rk m, k5 rk m⟩) ?_
      iterate 3 (
        refine LexN.step rfl rfl rfl (fun K hK => ?_)
        go_simp
        refine hK.out _ _ (fun h => by cases h) ?_)
      refine LexN.nil (NoPanic.normal ?_)
      refine hK9 _ _ ?_
      refine Met.intro ?_
      refine HJ9.out _ _ ?_
      refine MeetC.of undef undef ?_ ?_
      · rfl
      exact ⟨rk, PD.out rk m⟩
    · as_aux_lemma =>
      intro u9 x9 y9 wc2 hcut2
      obtain ⟨rk, og2, PD2⟩ := hcut2
      dsimp only [fillC, Nat.reduceAdd]
      have PDH : Hid _ := PD2
      clear PD2 PD KR hrun k5 j5 c1d e2d c1a
      go_wp2_with fail
      refine Met.intro ?_
      refine HJ7.out _ _ ?_
      refine MeetC.of undef undef ?_ ?_
      · rfl
      refine ⟨g, G, sg, ss, og2, (os.set n (o.put 0 v)).set n ((o.put 0 v).put 2 rk), sm, vers, T, ?_, ?_, fun y => ?_, RNH.out⟩
      · exact PDH.out.take 12
      · rw [List.set_set]
        obtain ⟨y, hy⟩ := has_at vars (k := n) (by rw [E9.out.lenO]; exact hnl)
        have hyx : y = x.x := by have := (E9.out.omI x.x n).mp HN.out; rw [hy] at this; injection this
        subst hyx
        obtain ⟨i1, i2, i3, i4, i5⟩ := E9.out.obI n o x.x HO.out hy
        have hlast : LastW F x := ⟨q, FQ.out, hqn⟩
        have hvn : v ∉ o.wr := by
          intro hm
          obtain ⟨i, z, w1, w2, w3, w4, q', w5, w6⟩ := (i1 v).mp hm
          have hie : i < e := by unfold Done at w1; omega
          obtain ⟨p, w7, w8⟩ := w2
          rw [AT.out] at w7; cases w7
          obtain ⟨z', y1, y2, y3, y4⟩ := WW.out.fwd z.v q' w5
          obtain ⟨b1, b2, b3⟩ := O'.out.uniq _ _ _ _ _ _ _ _ y1 w8 y2 w3 y3
          rcases y4 with ⟨y4, y5⟩ | ⟨e3, x3, y4, _⟩
          · have hz := y1.same (by rw [b1, b2, b3]; exact w8)
            subst hz
            refine y5 e x (by omega) ?_ HK.out w4.symm
            rw [b1, b2]; exact HAT.out
          · omega
        refine EI.up (c := v * 4000 + 3 * e + 1) ?_ (by omega)
        refine E9.out.objT HEN.out HN.out HO.out (fun h => ?_) (fun u => ?_) ?_ (fun u => ?_) i4 ?_
        · rw [HK.out] at h; exact absurd h.1 (by decide)
        · show u ∈ o.wr ++ [v] ↔ _
          rw [List.mem_append, List.mem_singleton, HK.out]
          exact ⟨fun h => h.elim .inl (fun h => .inr ⟨h, rfl, hlast⟩), fun h => h.elim .inl (fun h => .inr h.1)⟩
        · show (o.wr ++ [v]).Nodup
          rw [List.nodup_append]
          refine ⟨i2, by simp, fun a ha b hb hab => ?_⟩
          simp at hb
          subst hb hab
          exact hvn ha
        · show u ∈ o.ini ↔ _
          exact ⟨.inl, fun h => h.elim id (fun h => by rw [HK.out] at h; exact absurd h.2.1 (by decide))⟩
        · show (o.rk ++ [rk]).length = (o.wr ++ [v]).length
          simp [i5]
      · rw [TI9.out y, IniD.step HEN.out]
        exact ⟨.inl, fun h => h.elim id (fun h => by rw [HK.out] at h; exact absurd h.2.1 (by decide))⟩
  · as_aux_lemma =>
    go_wp2_with fail
    refine Met.intro ?_
    refine HJ7.out _ _ ?_
    refine MeetC.of undef undef ?_ ?_
    · rfl
    refine ⟨g, G, sg, ss, og, os, sm, vers, T, PW.out.take 12, ?_, fun y => ?_, RNH.out⟩
    · refine (E9.out.pass HEN.out HN.out (fun _ hl => ?_) (fun hk => ?_) (fun hk => ?_)).up (by omega)
      · obtain ⟨q', h1, h2⟩ := hl
        rw [FQ.out] at h1; cases h1; omega
      · rw [HK.out] at hk; cases hk
      · rw [HK.out] at hk; cases hk
    · rw [TI9.out y, IniD.step HEN.out]
      exact ⟨.inl, fun h => h.elim id (fun h => by rw [HK.out] at h; exact absurd h.2.1 (by decide))⟩
end Go.Proofs.YbulkctquGreatFmt

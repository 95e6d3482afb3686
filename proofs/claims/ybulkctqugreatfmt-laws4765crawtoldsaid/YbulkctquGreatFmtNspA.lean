/-
  newSessionPolygraph: evI57.
-/
import Derived.Test.YbulkctquGreatFmtNspM
import Derived.Test.YbulkctquGreatFmtFlh
import Derived.Test.YbulkctquGreatFmtLex
import Derived.Deep.RegionHeld3
import Derived.Test.YbulkctquGreatFmtOver
import Derived.Deep.RegionWith
import Derived.BigQuiet
import Derived.Deep.DeepCutAuto
namespace Go.Proofs.YbulkctquGreatFmt
open Go.ChangeShapes Go.WideShapes Go.ChangeAt Go.RowKit Go.Ord
set_option linter.unusedVariables false
attribute [-go_sem] Go.Builtin.append_ Go.Instr.buildSlice
set_option maxHeartbeats 16000000 in
set_option maxRecDepth 100000 in
theorem evI57 {u0 u2 u3 u4 u5 u6 u7 u8 u9 u10 u11 u12 u13 u14 u16 u17 u19 u21 u22 u23 u24 u29 u32 u33 u34 u35 u36 u37 u38 u39 u40 u41 u42 u43 u44 u45 u46 u47 u48 u49 u50 u51 u52 u53 u54 u55 u56 u57 u58 u59 u60 u61 u62 u63 u64 u65 u66 u67 u68 u69 u70 u71 u72 u73 u74 u75 u76 u77 u78 u79 u80 u81 u82 u83 u84 u85 u86 u87 u88 u89 u90 u91 u92 u93 u94 u95 u96 u97 u98 u99 u100 u101 u102 u103 u104 u105 u106 u107 u108 u109 u110 u111 u112 u113 u114 u115 u116 u117 u118 u119 u120 u121 u122 u123 u124 u125 u126 u127 u128 u129 u130 u131 u132 u133 u134 u135 u136 u137 u138 u139 u140 u141 u142 u143 u144 u145 u146 u147 u148 u149 u150 u151 u152 u153 u154 u155 u156 u157 u158 u159 u160 u161 u162 u163 u164 u165 u166 u167 u168 u169 u170 u171 u172 u173 u174 u175 u176 u177 u178 u179 u180 u181 u182 u183 u184 u185 u186 u187 u188 u189 u190 u191 u192 u193 u194 u195 u196 u197 u198 u199 u200 u201 u202 u203 u204 u205 u206 u207 u208 u209 u210 u211 u212 u213 u214 u215 u216 u217 u218 u219 u220 u221 u222 u223 u224 u225 u226 u227 u228 u229 u230 u231 u232 u233 u234 u235 u236 u237 u238 u239 u240 u241 u242 u243 u244 u245 u246 u247 u248 u249 u250 u251 u252 u253 u254 u255 u256 u257 u258 u259 u260 u261 u262 u263 u264 u265 u266 u267 u268 u269 u270 u271 u272 u273 u274 u275 u276 u277 u278 u279 u280 u281 u282 u283 u284 u285 u286 u287 u288 u289 u290 u291 u292 u293 u294 u295 u296 u297 u298 u299 u300 u301 u302 u303 u304 u305 u306 u307 u308 u309 u310 u311 u312 u313 u314 u315 u316 u317 u318 u319 u320 u321 u322 u323 u324 u325 u326 u327 u328 u329 u330 u331 u332 u333 u334 u335 u336 u337 u338 u339 u340 u341 u342 u343 u344 u345 u346 u347 u348 u349 u350 u351 u352 u353 u354 u355 u356 u357 u358 u359 u360 u361 u362 u363 u364 u365 u366 u367 u368 u369 u370 u371 u372 u373 u374 u375 u376 u377 u378 u379 u380 u381 u382 u383 u384 u385 u386 u387 u388 u389 u390 u391 u392 u393 u394 u395 u396 u397 u398 u399 u400 u401 u402 u403 u404 u405 u406 u407 u408 u409 u410 u411 u412 u413 u414 u415 u416 u417 u418 u419 u420 u421 u422 u423 u424 u425 u426 u427 u428 u429 u430 u431 u432 u433 u434 u435 u436 u437 u438 u439 u440 u441 u442 u443 u444 u445 u446 u447 u448 u449 u450 u451 u452 u453 u454 u455 u456 u457 u458 u459 u460 u461 u462 u463 u464 u465 u466 u467 u468 u469 u470 u471 u472 u473 u474 u475 u476 u477 u478 u479 u480 u481 u482 u483 u484 u485 u486 u487 u488 u489 u490 u491 u492 u493 u494 u495 u496 u497 u498 u499 u500 u501 u502 u503 u504 u505 u506 : Value} (w : World) (R : HR) (hs : List (List Tx)) (cap : Nat) (A : List Rk) (fC : List Nat) (nV : Nat) (fV : List Nat) (bF : Nat) (zs : List Nat) (bN : Nat) (NS : List (List UInt8)) (J0 : List Bool) (TX : List (Nat × Nat)) (NM : Nat × Nat → Option Nat) (bO : Nat) (F : Nat → Option Wr) (b : Nat) (H : HistE w R hs) (O : HOk hs) (W : WF hs F) (RO : ROk hs) (MF0 : MapAt w (ik .u64) b (fun v => (F v).map Wr.val)) (hA : A = rksAll 0 hs) (h12 : A.length ≤ 12) (hp : zs.Perm (List.range A.length)) (nmi : NMI A zs A.length NM) (hvb : ∀ s k e x, At hs s k e x → x.v < 900 ∧ x.x < 900) (hV : nV ≤ 10000) (g : GG) (G : List (List Nat)) (sg : SG) (ss : List Sr) (og : OG) (os : List Ob) (om sm : Nat → Option Nat) (T vars vers : List Nat) (v e bA : Nat) (r : Rk) (l : List Tx) (t : Tx) (x : Ev) (hl0 : hs[r.s]? = some l) (ht0 : l[r.k]? = some t) (hx0 : t.evs[e]? = some x) (hat0 : (ats A zs)[v]? = some (r.s, r.k)) (hcm0 : Cm hs r.s r.k) (hv : v < A.length) (bE n : Nat) (hn0 : om x.x = some n) (hk0 : x.k = 0) (hi0 : x.i = true) (wc : World) (hP : Pcs w wc (LE w R.top hs.length cap A fC nV fV bF zs bN NS g G J0 sg ss og os TX NM bO om sm T ++ [([bA], BlkIs bA 105 #[.int .i64 r.s, .int .i64 r.k])] ++ [([bE], BlkIs bE 37 #[.int .u8 x.k, .int .u64 x.x, .int .u64 x.v, .bool x.i])])) (hE : EI hs F A zs NM v e om sm vars vers os ss G (v * 4000 + 3 * e + 1)) (hT : ∀ y, y ∈ T ↔ IniD hs A zs v e y v) (hRN : ∀ s ∈ ss, s.rd ≠ []) (J K' : Act → World → Prop) (Q' : Exit → Act → World → Prop)
    (hJ : ∀ a' w', MeetC [none, none, none, none, none, none, none, none, none, none, none, none, none, none, none, none, none, none, none, none, none, none, none, none, none, none, none, none, none, none, none, none, none, some none, some none, some none, some none, some none, some none, none, none, none, none, none, none, none, none, none, none, none, none, none, none, none, none, none, none, none, none, none, none, none, none, none, none, none, none, none, none, none, none, none, none, none, none, none, none, none, none, none, none, none, none, none, none, none, none, none, none, none, none, none, none, none, none, none, none, none, none, none, none, none, none, none, none, none, none, none, none, none, none, none, none, none, none, none, none, none, none, none, none, none, none, none, none, none, none, none, none, none, none, none, none, none, none, none, none, none, none, none, none, none, none, none, none, none, none, none, none, none, none, none, none, none, none, none, none, none, none, none, none, none, none, none, none, none, none, none, none, none, none, none, none, none, none, none, none, none, none, none, none, none, none, none, none, none, none, none, none, none, none, none, none, none, none, none, none, none, none, none, none, none, none, none, none, none, none, none, none, none, none, none, none, none, none, none, none, none, none, none, none, none, none, none, none, none, none, none, none, none, none, none, none, none, none, none, none, none, none, none, none, none, none, some none, some none, some none, some none, some none, some none, some none, some none, some none, some none, some none, some none, some none, some none, some none, some none, some none, some none, some none, some none, some none, some none, some none, some none, some none, some none, some none, some none, some none, some none, some none, some none, some none, some none, some none, some none, some none, some none, some none, some none, some none, some none, some none, some none, some none, some none, some none, some none, some none, some none, some none, some none, some none, some none, some none, some none, some none, some none, some none, some none, some none, some none, some none, some none, some none, some none, some none, some none, some none, some none, some none, some none, some none, some none, some none, some none, some none, some none, some none, some none, some none, some none, some none, some none, some none, some none, some none, some none, some none, some none, some none, some none, some none, some none, some none, some none, some none, some none, some none, some none, some none, some none, some none, some none, some none, some none, some none, some none, some none, some none, some none, some none, some none, some none, some none, some none, some none, some none, some none, some none, some none, some none, some none, some none, some none, some none, some none, some none, some none, some none, some none, some none, some none, some none, some none, some none, some none, some none, some none, some none, some none, some none, some none, some none, some none, some none, some none, some none, some none, some none, some none, some none, some none, some none, some none, some none, some none, some none, some none, some none, some none, some none, some none, some none, some none, none, none, none, none, none, none, none, none, none, none, none, none, none, none, none, none, none, none, none, none, none, none, none, none, none, none, none, none, none, none, none, none, none, none, none, none, none, none, none, none, none, none, none, none, none, none, none, none, none, none, none, none, none, none, none, none, none, none, none, none, none, none, none, none, none, none, none, none, none, none, none, none, none, none, none, none, none, none, none, none, none, none, none, none, none, none, none, none, none, none, none, none, none, none, none, none, none, none, none] [u0, .map (some b), u2, u3, u4, u5, u6, u7, u8, u9, u10, u11, u12, u13, u14, .func (.func 29) #[] #[.pointer (some ⟨w.heap.size + 2, 0, none⟩)], u16, u17, .pointer (some ⟨bN + 1, 0, none⟩), u19, .map (some (bN + 3)), u21, u22, u23, u24, .map (some (bO + 1)), .map (some (bO + 2)), .int .i64 v, .pointer (some ⟨bA, 0, none⟩), u29, .pointer (some ⟨bE, 0, none⟩), .int .i64 n, u32, u33, u34, u35, u36, u37, u38, u39, u40, u41, u42, u43, u44, u45, u46, u47, u48, u49, u50, u51, u52, u53, u54, u55, u56, u57, u58, u59, u60, u61, u62, u63, u64, u65, u66, u67, u68, u69, u70, u71, u72, u73, u74, u75, u76, u77, u78, u79, u80, u81, u82, u83, u84, u85, u86, u87, u88, u89, u90, u91, u92, u93, u94, u95, u96, u97, u98, u99, u100, u101, u102, u103, u104, u105, u106, u107, u108, u109, u110, u111, u112, u113, u114, u115, u116, u117, u118, u119, u120, u121, u122, u123, u124, u125, u126, u127, u128, u129, u130, u131, u132, u133, u134, u135, u136, u137, u138, u139, u140, u141, u142, u143, u144, u145, u146, u147, u148, u149, u150, u151, u152, u153, u154, u155, u156, u157, u158, u159, u160, u161, u162, u163, u164, u165, u166, u167, u168, u169, u170, u171, u172, u173, u174, u175, u176, u177, u178, u179, u180, u181, u182, u183, u184, u185, u186, u187, u188, u189, u190, u191, u192, u193, u194, u195, u196, u197, u198, u199, u200, u201, u202, u203, u204, u205, u206, u207, u208, u209, u210, u211, u212, u213, u214, u215, u216, u217, u218, u219, u220, u221, u222, u223, u224, u225, u226, u227, u228, u229, u230, u231, u232, u233, u234, u235, u236, u237, u238, u239, u240, u241, u242, u243, u244, u245, u246, u247, u248, u249, u250, u251, u252, u253, u254, u255, u256, u257, u258, u259, u260, u261, u262, u263, u264, u265, u266, u267, u268, u269, u270, u271, u272, u273, u274, u275, u276, u277, u278, u279, u280, u281, u282, u283, u284, u285, u286, u287, u288, u289, u290, u291, u292, u293, u294, u295, u296, u297, u298, u299, u300, u301, u302, u303, u304, u305, u306, u307, u308, u309, u310, u311, u312, u313, u314, u315, u316, u317, u318, u319, u320, u321, u322, u323, u324, u325, u326, u327, u328, u329, u330, u331, u332, u333, u334, u335, u336, u337, u338, u339, u340, u341, u342, u343, u344, u345, u346, u347, u348, u349, u350, u351, u352, u353, u354, u355, u356, u357, u358, u359, u360, u361, u362, u363, u364, u365, u366, u367, u368, u369, u370, u371, u372, u373, u374, u375, u376, u377, u378, u379, u380, u381, u382, u383, u384, u385, u386, u387, u388, u389, u390, u391, u392, u393, u394, u395, u396, u397, u398, u399, u400, u401, u402, u403, u404, u405, u406, u407, u408, u409, u410, u411, u412, u413, u414, u415, u416, u417, u418, u419, u420, u421, u422, u423, u424, u425, u426, u427, u428, u429, u430, u431, u432, u433, u434, u435, u436, u437, u438, u439, u440, u441, u442, u443, u444, u445, u446, u447, u448, u449, u450, u451, u452, u453, u454, u455, u456, u457, u458, u459, u460, u461, u462, u463, u464, u465, u466, u467, u468, u469, u470, u471, u472, u473, u474, u475, u476, u477, u478, u479, u480, u481, u482, u483, u484, u485, u486, u487, u488, u489, u490, u491, u492, u493, u494, u495, u496, u497, u498, u499, u500, u501, u502, u503, u504, u505, u506] [] (fun _ _ wc => ∃ (g : GG) (G : List (List Nat)) (sg : SG) (ss : List Sr) (og : OG) (os : List Ob) (sm : Nat → Option Nat) (vers T : List Nat), Pcs w wc (LE w R.top hs.length cap A fC nV fV bF zs bN NS g G J0 sg ss og os TX NM bO om sm T ++ [([bA], BlkIs bA 105 #[.int .i64 r.s, .int .i64 r.k])]) ∧ EI hs F A zs NM v (e + 1) om sm vars vers os ss G (v * 4000 + 3 * (e + 1)) ∧ (∀ y, y ∈ T ↔ IniD hs A zs v (e + 1) y v) ∧ (∀ s ∈ ss, s.rd ≠ [])) a' w' → J a' w') (hK : ∀ a' w', Met J a' w' → K' a' w') : c57.wp Ybaz.prog (Exit.inBlock 13 (Exit.then K' Q')) ⟨[u0, .map (some b), u2, u3, u4, u5, u6, u7, u8, u9, u10, u11, u12, u13, u14, .func (.func 29) #[] #[.pointer (some ⟨w.heap.size + 2, 0, none⟩)], u16, u17, .pointer (some ⟨bN + 1, 0, none⟩), u19, .map (some (bN + 3)), u21, u22, u23, u24, .map (some (bO + 1)), .map (some (bO + 2)), .int .i64 v, .pointer (some ⟨bA, 0, none⟩), u29, .pointer (some ⟨bE, 0, none⟩), .int .i64 n, u32, u33, u34, u35, u36, u37, u38, u39, u40, u41, u42, u43, u44, u45, u46, u47, u48, u49, u50, u51, u52, u53, u54, u55, u56, u57, u58, u59, u60, u61, u62, u63, u64, u65, u66, u67, u68, u69, u70, u71, u72, u73, u74, u75, u76, u77, u78, u79, u80, u81, u82, u83, u84, u85, u86, u87, u88, u89, u90, u91, u92, u93, u94, u95, u96, u97, u98, u99, u100, u101, u102, u103, u104, u105, u106, u107, u108, u109, u110, u111, u112, u113, u114, u115, u116, u117, u118, u119, u120, u121, u122, u123, u124, u125, u126, u127, u128, u129, u130, u131, u132, u133, u134, u135, u136, u137, u138, u139, u140, u141, u142, u143, u144, u145, u146, u147, u148, u149, u150, u151, u152, u153, u154, u155, u156, u157, u158, u159, u160, u161, u162, u163, u164, u165, u166, u167, u168, u169, u170, u171, u172, u173, u174, u175, u176, u177, u178, u179, u180, u181, u182, u183, u184, u185, u186, u187, u188, u189, u190, u191, u192, u193, u194, u195, u196, u197, u198, u199, u200, u201, u202, u203, u204, u205, u206, u207, u208, u209, u210, u211, u212, u213, u214, u215, u216, u217, u218, u219, u220, u221, u222, u223, u224, u225, u226, u227, u228, u229, u230, u231, u232, u233, u234, u235, u236, u237, u238, u239, u240, u241, u242, u243, u244, u245, u246, u247, u248, u249, u250, u251, u252, u253, u254, u255, u256, u257, u258, u259, u260, u261, u262, u263, u264, u265, u266, u267, u268, u269, u270, u271, u272, u273, u274, u275, u276, u277, u278, u279, u280, u281, u282, u283, u284, u285, u286, u287, u288, u289, u290, u291, u292, u293, u294, u295, u296, u297, u298, u299, u300, u301, u302, u303, u304, u305, u306, u307, u308, u309, u310, u311, u312, u313, u314, u315, u316, u317, u318, u319, u320, u321, u322, u323, u324, u325, u326, u327, u328, u329, u330, u331, u332, u333, u334, u335, u336, u337, u338, u339, u340, u341, u342, u343, u344, u345, u346, u347, u348, u349, u350, u351, u352, u353, u354, u355, u356, u357, u358, u359, u360, u361, u362, u363, u364, u365, u366, u367, u368, u369, u370, u371, u372, u373, u374, u375, u376, u377, u378, u379, u380, u381, u382, u383, u384, u385, u386, u387, u388, u389, u390, u391, u392, u393, u394, u395, u396, u397, u398, u399, u400, u401, u402, u403, u404, u405, u406, u407, u408, u409, u410, u411, u412, u413, u414, u415, u416, u417, u418, u419, u420, u421, u422, u423, u424, u425, u426, u427, u428, u429, u430, u431, u432, u433, u434, u435, u436, u437, u438, u439, u440, u441, u442, u443, u444, u445, u446, u447, u448, u449, u450, u451, u452, u453, u454, u455, u456, u457, u458, u459, u460, u461, u462, u463, u464, u465, u466, u467, u468, u469, u470, u471, u472, u473, u474, u475, u476, u477, u478, u479, u480, u481, u482, u483, u484, u485, u486, u487, u488, u489, u490, u491, u492, u493, u494, u495, u496, u497, u498, u499, u500, u501, u502, u503, u504, u505, u506].toArray, []⟩ wc := by
  have H' : Hid _ := H
  have O' : Hid _ := O
  have WW : Hid _ := W
  have RO' : Hid _ := RO
  have MF : Hid _ := MF0
  have HAR : Hid (A = rksAll 0 hs) := hA
  have ZP : Hid (zs.Perm (List.range A.length)) := hp
  have NI : Hid _ := nmi
  have HVB : Hid (∀ s k e x, At hs s k e x → x.v < 900 ∧ x.x < 900) := hvb
  have hbw : b < w.heap.size := MF0.lt
  have L3 : Hid (hs[r.s]? = some l) := hl0
  have T3 : Hid (l[r.k]? = some t) := ht0
  have HX0 : Hid (t.evs[e]? = some x) := hx0
  have AT : Hid ((ats A zs)[v]? = some (r.s, r.k)) := hat0
  have CM : Hid (Cm hs r.s r.k) := hcm0
  have HAT : Hid (At hs r.s r.k e x) := ⟨l, t, hl0, ht0, hx0⟩
  have HEN : Hid (EvN hs A zs v e x) := ⟨(r.s, r.k), hat0, l, t, hl0, ht0, hx0⟩
  have HN : Hid (om x.x = some n) := hn0
  have HK : Hid (x.k = 0) := hk0
  have HI : Hid (x.i = true) := hi0
  have P9 : Hid _ := hP
  have E9 : Hid _ := hE
  have TI9 : Hid (∀ y, y ∈ T ↔ IniD hs A zs v e y v) := hT
  have HJ7 : Hid _ := hJ
  have RNH : Hid (∀ s ∈ ss, s.rd ≠ []) := hRN
  clear H O W RO MF0 hA hp nmi hvb
  clear hl0 ht0 hx0 hat0 hcm0
  clear hn0 hk0 hi0 hP hE hT hJ hRN
  have hnl := E9.out.objAt HN.out
  have hfo := E9.out.fewO
  have PG : Poly (bN + 1) bN bF A.length g G J0 sg ss og os wc := P9.out.mem (i := 5) rfl
  have d5 : wc.cell? ⟨bN + 1, 5, none⟩ = some (.slice og.a os.length og.c) := (PG.cell (j := 5) rfl).1
  obtain ⟨o, ho⟩ := has_at os hnl
  obtain ⟨bO9, sO, fO9, ea, _⟩ := PG.ob.row ho 0 (by omega) rfl
  have HO : Hid (os[n]? = some o) := ho
  have HA : Hid (og.a = some ⟨bO9, 0, none⟩) := ea
  rw [ea] at d5
  clear ho ea PG
  conv => arg 2; whnf
  go_upto_region 59 with fail
  clear d5
  obtain ⟨bW, hbW⟩ : ∃ z, z = wc.heap.size := ⟨_, rfl⟩
  have bE7 : Blk wc bE 37 #[.int .u8 x.k, .int .u64 x.x, .int .u64 x.v, .bool x.i] := P9.out.mem (i := 12) rfl
  have hltE : bE < wc.heap.size := bE7.lt
  have hneE : bE ≠ wc.heap.size := by omega
  have e0 : wc.cell? ⟨bE, 0, none⟩ = some (.int .u8 x.k) := bE7.cell 0
  have e1 : wc.cell? ⟨bE, 1, none⟩ = some (.int .u64 x.x) := bE7.cell 1
  have e2 : wc.cell? ⟨bE, 2, none⟩ = some (.int .u64 x.v) := bE7.cell 2
  have e3 : wc.cell? ⟨bE, 3, none⟩ = some (.bool x.i) := bE7.cell 3
  clear bE7
  rw [HK.out] at e0
  rw [HI.out] at e3
  have MTc : Hid (MapAt (wc.alloc (.cells #[.int .i64 0, .int .i64 0, .int .i64 0, .int .i64 0] 114)) (ik .u64) (bO + 2) (tmF T)) := by
    have h : MapAt wc (ik .u64) (bO + 2) (tmF T) := P9.out.mem (i := 10) rfl
    exact h.keep (Upd.alloc [] _ _) (by simp)
  have PW : Hid (Pcs w (wc.alloc (.cells #[.int .i64 0, .int .i64 0, .int .i64 0, .int .i64 0] 114)) (LE w R.top hs.length cap A fC nV fV bF zs bN NS g G J0 sg ss og os TX NM bO om sm T ++ [([bA], BlkIs bA 105 #[.int .i64 r.s, .int .i64 r.k])] ++ [([bE], BlkIs bE 37 #[.int .u8 x.k, .int .u64 x.x, .int .u64 x.v, .bool x.i])])) := P9.out.keep (Upd.alloc [] _ _) (by simp)
  obtain ⟨W2, hW2⟩ : ∃ z : World, z = wc.alloc (.cells #[.int .i64 0, .int .i64 0, .int .i64 0, .int .i64 0] 114) := ⟨_, rfl⟩
  rw [← hW2] at PW MTc ⊢
  rw [← hbW]
  clear hW2 hbW e0 e1 e2 e3 P9 hltE hneE
  have bE7 : Blk W2 bE 37 #[.int .u8 x.k, .int .u64 x.x, .int .u64 x.v, .bool x.i] := PW.out.mem (i := 12) rfl
  have e0 : W2.cell? ⟨bE, 0, none⟩ = some (.int .u8 0) := by have := bE7.cell 0; rw [this]; simp [HK.out]
  have e1 : W2.cell? ⟨bE, 1, none⟩ = some (.int .u64 x.x) := bE7.cell 1
  have e3 : W2.cell? ⟨bE, 3, none⟩ = some (.bool true) := by have := bE7.cell 3; rw [this]; simp [HI.out]
  clear bE7
  by_cases hT : x.x ∈ T
  · as_aux_lemma =>
    have HTT : Hid (x.x ∈ T) := hT
    clear hT
    go_wp2_with (at_lookup; refine wpList_look1 rfl (.tmp 375) (.tmp 377) 137 rfl Ybaz.underlying137 key35 (bO + 2) _ MTc.out x.x zero4 rfl rfl (.bool true) (by simp [tmF, HTT.out]) ?_)
    refine Met.intro ?_
    refine HJ7.out _ _ ?_
    refine MeetC.of undef undef ?_ ?_
    · rfl
    refine ⟨g, G, sg, ss, og, os, sm, vers, T, PW.out.take 12, ?_, fun y => ?_, RNH.out⟩
    · refine (E9.out.pass HEN.out HN.out (fun hk => ?_) (fun _ _ => (TI9.out x.x).mp HTT.out) (fun _ hi => ?_)).up (by omega)
      · rw [HK.out] at hk; cases hk
      · rw [HI.out] at hi; cases hi
    · rw [TI9.out y, IniD.step HEN.out]
      exact ⟨.inl, fun h => h.elim id (fun h => by obtain ⟨_, _, _, rfl⟩ := h; exact (TI9.out x.x).mp HTT.out)⟩
  · as_aux_lemma =>
    have HTT : Hid (x.x ∉ T) := hT
    clear hT
    go_upto_region 78 with (first | (at_lookup; refine wpList_look1 rfl (.tmp 375) (.tmp 377) 137 rfl Ybaz.underlying137 key35 (bO + 2) _ MTc.out x.x zero4 rfl rfl (.bool false) (by simp [tmF, HTT.out]) ?_) | (at_mapUpdate; refine wpList_put rfl (.tmp 380) (.tmp 382) (.const (.bool true)) 137 rfl Ybaz.underlying137 key35 (bO + 2) _ MTc.out x.x (.bool true) rfl rfl rfl ?_; intro w5 m5 u5; have M5 : Hid _ := m5; have U5 : Hid _ := u5; clear m5 u5))
    rw [put_none]
    have PX5 : Hid (Pcs w w5 (LE w R.top hs.length cap A fC nV fV bF zs bN NS g G J0 sg ss og os TX NM bO om sm (T ++ [x.x]) ++ [([bA], BlkIs bA 105 #[.int .i64 r.s, .int .i64 r.k])] ++ [([bE], BlkIs bE 37 #[.int .u8 x.k, .int .u64 x.x, .int .u64 x.v, .bool x.i])])) := PW.out.put (i := 10) rfl U5.out (P' := fun z => MapAt z (ik .u64) (bO + 2) (tmF (T ++ [x.x]))) (M5.out.congr (fun y => by by_cases c : y = x.x <;> simp [c, tmF])) (mapKeeps _ _ _) (fun k hk => ⟨.inl hk, by simp at hk; subst hk; exact M5.out.lt⟩) (by simp)
    clear e0 e1 e3 MTc M5 U5 PW
    have PG : Poly (bN + 1) bN bF A.length g G J0 sg ss og os w5 := PX5.out.mem (i := 5) rfl
    obtain ⟨bO8, sv, fR, ea, c1, z1, nv, q4, q5, q6, q7, q8⟩ := PG.ob.row HO.out 1 (by omega) (r := o.ini) rfl
    have e9 : bO8 = bO9 := by rw [HA.out] at ea; injection ea with ea; injection ea with ea; exact ea.symm
    subst e9
    have hlt8 : bO8 < w5.heap.size := World.block_lt_of_cell? _ _ c1
    have hil : o.ini.length ≤ 900 := by
      obtain ⟨y, hy⟩ := has_at vars (k := n) (by rw [E9.out.lenO]; exact hnl)
      obtain ⟨_, _, i3, i4, _⟩ := E9.out.obI n o y HO.out hy
      have := nodup_len A.length o.ini i4 (fun u hu => by
        obtain ⟨i, z, _, hz, _⟩ := (i3 u).mp hu
        obtain ⟨p, hp, _⟩ := hz
        have := (List.getElem?_eq_some_iff.mp hp).1
        rw [ats_len ZP.out] at this; exact this)
      omega
    obtain ⟨gR, cR, w6, hrun, hS6, hU6, hF6⟩ := run_appended w5 (w5.alloc (.cells #[.int .i64 v] 3)) 83 83 3 1 8 slInts (by decide) sv.a sv.n sv.c fR _ q4 [.int .i64 v] rfl (by intro u hu; simp at hu; subst hu; rfl) (by omega) (Upd.refl _ _)
    obtain ⟨og', r1, r2, r3, r4, r5⟩ := q8 gR cR v w6 hS6 hU6 hF6
    obtain ⟨p1, p2, p3⟩ := PG.objPut r1 r2 r3 (by simp) r4 r5
    have k5 : w6.cell? ⟨bO8, n * 3 + 1, none⟩ = some (.slice sv.a sv.n sv.c) := hU6.cell c1 q5
    have j5 := hU6.free hlt8 z1 q5
    have PC : Hid (Pcs w (w6.setCell ⟨bO8, n * 3 + 1, none⟩ (.slice (some ⟨gR, 0, none⟩) (sv.n + 1) cR)) (LE w R.top hs.length cap A fC nV fV bF zs bN NS g G J0 sg ss og' (os.set n (o.put 1 v)) TX NM bO om sm (T ++ [x.x]) ++ [([bA], BlkIs bA 105 #[.int .i64 r.s, .int .i64 r.k])] ++ [([bE], BlkIs bE 37 #[.int .u8 x.k, .int .u64 x.x, .int .u64 x.v, .bool x.i])])) := PX5.out.put (i := 5) rfl p2 p1 (Poly.keeps _ _ _ _ _ _ _ _ _ _ _) p3 p1.nd
    have hbs3 := bs83
    have hnE : ¬ IniD hs A zs v e x.x v := fun h => HTT.out ((TI9.out x.x).mpr h)
    have HNE : Hid (¬ IniD hs A zs v e x.x v) := hnE
    clear PG hS6 hU6 hF6 r1 r2 r3 r4 r5 p1 p2 p3 PX5 q4 q5 q6 q7 q8 z1 nv hil hnE ea
    go_wp2_with fail
    refine Met.intro ?_
    refine HJ7.out _ _ ?_
    refine MeetC.of undef undef ?_ ?_
    · rfl
    refine ⟨g, G, sg, ss, og', os.set n (o.put 1 v), sm, vers, T ++ [x.x], ?_, ?_, fun y => ?_, RNH.out⟩
    · exact PC.out.take 12
    · obtain ⟨y, hy⟩ := has_at vars (k := n) (by rw [E9.out.lenO]; exact hnl)
      have hyx : y = x.x := by have := (E9.out.omI x.x n).mp HN.out; rw [hy] at this; injection this
      subst hyx
      obtain ⟨i1, i2, i3, i4, i5⟩ := E9.out.obI n o x.x HO.out hy
      refine EI.up (c := v * 4000 + 3 * e + 1) ?_ (by omega)
      refine E9.out.objT HEN.out HN.out HO.out (fun h => ?_) (fun u => ?_) i2 (fun u => ?_) ?_ i5
      · rw [HI.out] at h; cases h.2
      · show u ∈ o.wr ↔ _
        exact ⟨.inl, fun h => h.elim id (fun h => by rw [HK.out] at h; exact absurd h.2.1 (by decide))⟩
      · show u ∈ o.ini ++ [v] ↔ _
        rw [List.mem_append, List.mem_singleton, HK.out, HI.out]
        simp
      · show (o.ini ++ [v]).Nodup
        rw [List.nodup_append]
        refine ⟨i4, by simp, fun a ha b hb hab => ?_⟩
        simp at hb
        subst hb hab
        exact HNE.out ((i3 a).mp ha)
    · rw [IniD.step HEN.out, List.mem_append, List.mem_singleton, TI9.out y, HK.out, HI.out]
      simp
      exact ⟨fun h => h.elim .inl (fun h => .inr h.symm), fun h => h.elim .inl (fun h => .inr h.symm)⟩
end Go.Proofs.YbulkctquGreatFmt

/-
  newSessionPolygraph: a read of another's version.
-/
import Derived.Test.YbulkctquGreatFmtNspM
import Derived.Test.YbulkctquGreatFmtFlh
import Derived.Test.YbulkctquGreatFmtLex
import Derived.Deep.RegionHeld3
import Derived.Test.YbulkctquGreatFmtNspK
import Derived.Deep.RegionWith
import Derived.BigQuiet
import Derived.Deep.DeepCutAuto
namespace Go.Proofs.YbulkctquGreatFmt
open Go.ChangeShapes Go.WideShapes Go.ChangeAt Go.RowKit Go.Ord
set_option linter.unusedVariables false
attribute [-go_sem] Go.Builtin.append_ Go.Instr.buildSlice
set_option maxHeartbeats 16000000 in
set_option maxRecDepth 100000 in
theorem rd61 {u0 u1 u2 u3 u4 u5 u6 u7 u8 u9 u10 u11 u12 u13 u14 u16 u17 u19 u21 u22 u23 u24 u26 u28 u29 u32 u33 u35 u36 u37 u38 u39 u40 u41 u42 u43 u44 u45 u46 u47 u48 u49 u50 u51 u52 u53 u54 u55 u56 u57 u58 u59 u60 u61 u62 u63 u64 u65 u66 u67 u68 u69 u70 u71 u72 u73 u74 u75 u76 u77 u78 u79 u80 u81 u82 u83 u84 u85 u86 u87 u88 u89 u90 u91 u92 u93 u94 u95 u96 u97 u98 u99 u100 u101 u102 u103 u104 u105 u106 u107 u108 u109 u110 u111 u112 u113 u114 u115 u116 u117 u118 u119 u120 u121 u122 u123 u124 u125 u126 u127 u128 u129 u130 u131 u132 u133 u134 u135 u136 u137 u138 u139 u140 u141 u142 u143 u144 u145 u146 u147 u148 u149 u150 u151 u152 u153 u154 u155 u156 u157 u158 u159 u160 u161 u162 u163 u164 u165 u166 u167 u168 u169 u170 u171 u172 u173 u174 u175 u176 u177 u178 u179 u180 u181 u182 u183 u184 u185 u186 u187 u188 u189 u190 u191 u192 u193 u194 u195 u196 u197 u198 u199 u200 u201 u202 u203 u204 u205 u206 u207 u208 u209 u210 u211 u212 u213 u214 u215 u216 u217 u218 u219 u220 u221 u222 u223 u224 u225 u226 u227 u228 u229 u230 u231 u232 u233 u234 u235 u236 u237 u238 u239 u240 u241 u242 u243 u244 u245 u246 u247 u248 u249 u250 u251 u252 u253 u254 u255 u256 u257 u258 u259 u260 u261 u262 u263 u264 u265 u266 u267 u268 u269 u270 u271 u272 u273 u274 u275 u276 u277 u278 u279 u280 u281 u282 u283 u284 u285 u286 u287 u288 u289 u290 u291 u292 u293 u294 u295 u296 u297 u298 u299 u300 u301 u302 u303 u304 u305 u306 u307 u308 u309 u310 u311 u312 u313 u314 u315 u316 u317 u318 u319 u320 u321 u322 u323 u324 u325 u326 u327 u328 u329 u330 u331 u332 u333 u334 u335 u336 u337 u338 u339 u340 u341 u342 u343 u344 u345 u346 u347 u348 u349 u350 u351 u352 u353 u354 u355 u356 u357 u358 u359 u360 u361 u362 u363 u364 u365 u366 u367 u368 u369 u370 u371 u372 u373 u374 u375 u376 u377 u378 u379 u380 u381 u382 u383 u384 u385 u386 u387 u388 u389 u390 u391 u392 u393 u394 u395 u396 u397 u398 u399 u400 u401 u402 u403 u404 u405 u406 u407 u408 u409 u410 u411 u412 u413 u414 u415 u416 u417 u418 u419 u420 u421 u422 u423 u424 u425 u426 u427 u428 u429 u430 u431 u432 u433 u434 u435 u436 u437 u438 u439 u440 u441 u442 u443 u444 u445 u446 u447 u448 u449 u450 u451 u452 u453 u454 u455 u456 u457 u458 u459 u460 u461 u462 u463 u464 u465 u466 u467 u468 u469 u470 u471 u472 u473 u474 u475 u476 u477 u478 u479 u480 u481 u482 u483 u484 u485 u486 u487 u488 u489 u490 u491 u492 u493 u494 u495 u496 u497 u498 u499 u500 u501 u502 u503 u504 u505 u506 : Value} (w : World) (R : HR) (hs : List (List Tx)) (cap : Nat) (A : List Rk) (fC : List Nat) (nV : Nat) (fV : List Nat) (bF : Nat) (zs : List Nat) (bN : Nat) (NS : List (List UInt8)) (J0 : List Bool) (TX : List (Nat × Nat)) (NM : Nat × Nat → Option Nat) (bO : Nat) (F : Nat → Option Wr) (b : Nat) (H : HistE w R hs) (O : HOk hs) (W : WF hs F) (RO : ROk hs) (MF0 : MapAt w (ik .u64) b (fun v => (F v).map Wr.val)) (hA : A = rksAll 0 hs) (h12 : A.length ≤ 12) (hp : zs.Perm (List.range A.length)) (nmi : NMI A zs A.length NM) (hvb : ∀ s k e x, At hs s k e x → x.v < 900 ∧ x.x < 900) (hV : nV ≤ 10000) (g : GG) (G : List (List Nat)) (sg : SG) (ss : List Sr) (og : OG) (os : List Ob) (om sm : Nat → Option Nat) (T vars vers : List Nat) (v e bA : Nat) (r : Rk) (l : List Tx) (t : Tx) (x : Ev) (hl0 : hs[r.s]? = some l) (ht0 : l[r.k]? = some t) (hx0 : t.evs[e]? = some x) (hat0 : (ats A zs)[v]? = some (r.s, r.k)) (hcm0 : Cm hs r.s r.k) (hv : v < A.length) (bE bW n : Nat) (q : Wr) (hn0 : om x.x = some n) (hk0 : x.k = 0) (hi0 : x.i = false) (hq0 : F x.v = some q) (hno : ¬ (q.s = r.s ∧ q.k = r.k)) (wc : World) (hP : Pcs w wc (LE w R.top hs.length cap A fC nV fV bF zs bN NS g G J0 sg ss og os TX NM bO om sm T ++ [([bA], BlkIs bA 105 #[.int .i64 r.s, .int .i64 r.k])] ++ [([bE], BlkIs bE 37 #[.int .u8 x.k, .int .u64 x.x, .int .u64 x.v, .bool x.i])] ++ [([bW], BlkIs bW 114 #[.int .i64 q.s, .int .i64 q.k, .int .i64 q.e, .int .i64 q.n])])) (hE : EI hs F A zs NM v e om sm vars vers os ss G (v * 4000 + 3 * e + 1)) (hT : ∀ y, y ∈ T ↔ IniD hs A zs v e y v) (hRN : ∀ s ∈ ss, s.rd ≠ []) (Q : Exit → Act → World → Prop)
    (hQ : ∀ a' w', MeetC [none, none, none, none, none, none, none, none, none, none, none, none, none, none, none, none, none, none, none, none, none, none, none, none, none, none, none, none, none, none, none, none, none, none, none, some none, some none, some none, some none, none, none, none, none, none, none, none, none, none, none, none, none, none, none, none, none, none, none, none, none, none, none, none, none, none, none, none, none, none, none, none, none, none, none, none, none, none, none, none, none, none, none, none, none, none, none, none, none, none, none, none, none, none, none, none, none, none, none, none, none, none, none, none, none, none, none, none, none, none, none, none, none, none, none, none, none, none, none, none, none, none, none, none, none, none, none, none, none, none, none, none, none, none, none, none, none, none, none, none, none, none, none, none, none, none, none, none, none, none, none, none, none, none, none, none, none, none, none, none, none, none, none, none, none, none, none, none, none, none, none, none, none, none, none, none, none, none, none, none, none, none, none, none, none, none, none, none, none, none, none, none, none, none, none, none, none, none, none, none, none, none, none, none, none, none, none, none, none, none, none, none, none, none, none, none, none, none, none, none, none, none, none, none, none, none, none, none, none, none, none, none, none, none, none, none, none, none, none, none, none, none, none, none, none, none, none, none, none, none, none, none, none, none, none, none, none, none, some none, some none, some none, some none, some none, some none, some none, some none, some none, some none, some none, some none, some none, some none, some none, some none, some none, some none, some none, some none, some none, some none, some none, some none, some none, some none, some none, some none, some none, some none, some none, some none, some none, some none, some none, some none, some none, some none, some none, some none, some none, some none, some none, some none, some none, some none, some none, some none, some none, some none, some none, some none, some none, some none, some none, some none, some none, some none, some none, some none, some none, some none, some none, some none, some none, some none, some none, some none, some none, some none, some none, some none, some none, some none, some none, some none, some none, some none, some none, some none, some none, some none, some none, some none, some none, some none, none, none, none, none, none, none, none, none, none, none, none, none, none, none, none, none, none, none, none, none, none, none, none, none, none, none, none, none, none, none, none, none, none, none, none, none, none, none, none, none, none, none, none, none, none, none, none, none, none, none, none, none, none, none, none, none, none, none, none, none, none, none, none, none, none, none, none, none, none, none, none, none, none, none, none, none, none, none, none, none, none, none, none, none, none, none, none, none, none, none, none, none, none, none, none, none, none, none, none, none, none, none, none, none, none, none, none, none, none, none, none, none, none, none, none, none, none, none, none, none, none, none, none, none, none, none, none, none, none, none, none, none, none, none, none, none, none, none, none, none, none, none, none, none, none, none, none, none, none, none, none, none, none, none, none, none, none, none, none, none, none, none, none, none, none] [u0, u1, u2, u3, u4, u5, u6, u7, u8, u9, u10, u11, u12, u13, u14, .func (.func 29) #[] #[.pointer (some ⟨w.heap.size + 2, 0, none⟩)], u16, u17, .pointer (some ⟨bN + 1, 0, none⟩), u19, .map (some (bN + 3)), u21, u22, u23, u24, .map (some (bO + 1)), u26, .int .i64 v, u28, u29, .pointer (some ⟨bE, 0, none⟩), .int .i64 n, u32, u33, .pointer (some ⟨bW, 0, none⟩), u35, u36, u37, u38, u39, u40, u41, u42, u43, u44, u45, u46, u47, u48, u49, u50, u51, u52, u53, u54, u55, u56, u57, u58, u59, u60, u61, u62, u63, u64, u65, u66, u67, u68, u69, u70, u71, u72, u73, u74, u75, u76, u77, u78, u79, u80, u81, u82, u83, u84, u85, u86, u87, u88, u89, u90, u91, u92, u93, u94, u95, u96, u97, u98, u99, u100, u101, u102, u103, u104, u105, u106, u107, u108, u109, u110, u111, u112, u113, u114, u115, u116, u117, u118, u119, u120, u121, u122, u123, u124, u125, u126, u127, u128, u129, u130, u131, u132, u133, u134, u135, u136, u137, u138, u139, u140, u141, u142, u143, u144, u145, u146, u147, u148, u149, u150, u151, u152, u153, u154, u155, u156, u157, u158, u159, u160, u161, u162, u163, u164, u165, u166, u167, u168, u169, u170, u171, u172, u173, u174, u175, u176, u177, u178, u179, u180, u181, u182, u183, u184, u185, u186, u187, u188, u189, u190, u191, u192, u193, u194, u195, u196, u197, u198, u199, u200, u201, u202, u203, u204, u205, u206, u207, u208, u209, u210, u211, u212, u213, u214, u215, u216, u217, u218, u219, u220, u221, u222, u223, u224, u225, u226, u227, u228, u229, u230, u231, u232, u233, u234, u235, u236, u237, u238, u239, u240, u241, u242, u243, u244, u245, u246, u247, u248, u249, u250, u251, u252, u253, u254, u255, u256, u257, u258, u259, u260, u261, u262, u263, u264, u265, u266, u267, u268, u269, u270, u271, u272, u273, u274, u275, u276, u277, u278, u279, u280, u281, u282, u283, u284, u285, u286, u287, u288, u289, u290, u291, u292, u293, u294, u295, u296, u297, u298, u299, u300, u301, u302, u303, u304, u305, u306, u307, u308, u309, u310, u311, u312, u313, u314, u315, u316, u317, u318, u319, u320, u321, u322, u323, u324, u325, u326, u327, u328, u329, u330, u331, u332, u333, u334, u335, u336, u337, u338, u339, u340, u341, u342, u343, u344, u345, u346, u347, u348, u349, u350, u351, u352, u353, u354, u355, u356, u357, u358, u359, u360, u361, u362, u363, u364, u365, u366, u367, u368, u369, u370, u371, u372, u373, u374, u375, u376, u377, u378, u379, u380, u381, u382, u383, u384, u385, u386, u387, u388, u389, u390, u391, u392, u393, u394, u395, u396, u397, u398, u399, u400, u401, u402, u403, u404, u405, u406, u407, u408, u409, u410, u411, u412, u413, u414, u415, u416, u417, u418, u419, u420, u421, u422, u423, u424, u425, u426, u427, u428, u429, u430, u431, u432, u433, u434, u435, u436, u437, u438, u439, u440, u441, u442, u443, u444, u445, u446, u447, u448, u449, u450, u451, u452, u453, u454, u455, u456, u457, u458, u459, u460, u461, u462, u463, u464, u465, u466, u467, u468, u469, u470, u471, u472, u473, u474, u475, u476, u477, u478, u479, u480, u481, u482, u483, u484, u485, u486, u487, u488, u489, u490, u491, u492, u493, u494, u495, u496, u497, u498, u499, u500, u501, u502, u503, u504, u505, u506] [] (fun _ _ wc => ∃ (g : GG) (G : List (List Nat)) (sg : SG) (ss : List Sr) (og : OG) (os : List Ob) (sm : Nat → Option Nat) (vers T : List Nat), Pcs w wc (LE w R.top hs.length cap A fC nV fV bF zs bN NS g G J0 sg ss og os TX NM bO om sm T ++ [([bA], BlkIs bA 105 #[.int .i64 r.s, .int .i64 r.k])]) ∧ EI hs F A zs NM v (e + 1) om sm vars vers os ss G (v * 4000 + 3 * (e + 1)) ∧ (∀ y, y ∈ T ↔ IniD hs A zs v (e + 1) y v) ∧ (∀ s ∈ ss, s.rd ≠ [])) a' w' → Q .normal a' w') : c61.wp Ybaz.prog Q ⟨[u0, u1, u2, u3, u4, u5, u6, u7, u8, u9, u10, u11, u12, u13, u14, .func (.func 29) #[] #[.pointer (some ⟨w.heap.size + 2, 0, none⟩)], u16, u17, .pointer (some ⟨bN + 1, 0, none⟩), u19, .map (some (bN + 3)), u21, u22, u23, u24, .map (some (bO + 1)), u26, .int .i64 v, u28, u29, .pointer (some ⟨bE, 0, none⟩), .int .i64 n, u32, u33, .pointer (some ⟨bW, 0, none⟩), u35, u36, u37, u38, u39, u40, u41, u42, u43, u44, u45, u46, u47, u48, u49, u50, u51, u52, u53, u54, u55, u56, u57, u58, u59, u60, u61, u62, u63, u64, u65, u66, u67, u68, u69, u70, u71, u72, u73, u74, u75, u76, u77, u78, u79, u80, u81, u82, u83, u84, u85, u86, u87, u88, u89, u90, u91, u92, u93, u94, u95, u96, u97, u98, u99, u100, u101, u102, u103, u104, u105, u106, u107, u108, u109, u110, u111, u112, u113, u114, u115, u116, u117, u118, u119, u120, u121, u122, u123, u124, u125, u126, u127, u128, u129, u130, u131, u132, u133, u134, u135, u136, u137, u138, u139, u140, u141, u142, u143, u144, u145, u146, u147, u148, u149, u150, u151, u152, u153, u154, u155, u156, u157, u158, u159, u160, u161, u162, u163, u164, u165, u166, u167, u168, u169, u170, u171, u172, u173, u174, u175, u176, u177, u178, u179, u180, u181, u182, u183, u184, u185, u186, u187, u188, u189, u190, u191, u192, u193, u194, u195, u196, u197, u198, u199, u200, u201, u202, u203, u204, u205, u206, u207, u208, u209, u210, u211, u212, u213, u214, u215, u216, u217, u218, u219, u220, u221, u222, u223, u224, u225, u226, u227, u228, u229, u230, u231, u232, u233, u234, u235, u236, u237, u238, u239, u240, u241, u242, u243, u244, u245, u246, u247, u248, u249, u250, u251, u252, u253, u254, u255, u256, u257, u258, u259, u260, u261, u262, u263, u264, u265, u266, u267, u268, u269, u270, u271, u272, u273, u274, u275, u276, u277, u278, u279, u280, u281, u282, u283, u284, u285, u286, u287, u288, u289, u290, u291, u292, u293, u294, u295, u296, u297, u298, u299, u300, u301, u302, u303, u304, u305, u306, u307, u308, u309, u310, u311, u312, u313, u314, u315, u316, u317, u318, u319, u320, u321, u322, u323, u324, u325, u326, u327, u328, u329, u330, u331, u332, u333, u334, u335, u336, u337, u338, u339, u340, u341, u342, u343, u344, u345, u346, u347, u348, u349, u350, u351, u352, u353, u354, u355, u356, u357, u358, u359, u360, u361, u362, u363, u364, u365, u366, u367, u368, u369, u370, u371, u372, u373, u374, u375, u376, u377, u378, u379, u380, u381, u382, u383, u384, u385, u386, u387, u388, u389, u390, u391, u392, u393, u394, u395, u396, u397, u398, u399, u400, u401, u402, u403, u404, u405, u406, u407, u408, u409, u410, u411, u412, u413, u414, u415, u416, u417, u418, u419, u420, u421, u422, u423, u424, u425, u426, u427, u428, u429, u430, u431, u432, u433, u434, u435, u436, u437, u438, u439, u440, u441, u442, u443, u444, u445, u446, u447, u448, u449, u450, u451, u452, u453, u454, u455, u456, u457, u458, u459, u460, u461, u462, u463, u464, u465, u466, u467, u468, u469, u470, u471, u472, u473, u474, u475, u476, u477, u478, u479, u480, u481, u482, u483, u484, u485, u486, u487, u488, u489, u490, u491, u492, u493, u494, u495, u496, u497, u498, u499, u500, u501, u502, u503, u504, u505, u506].toArray, []⟩ wc := by
  have H' : Hid _ := H
  have O' : Hid _ := O
  have WW : Hid _ := W
  have RO' : Hid _ := RO
  have MF : Hid _ := MF0
  have HAR : Hid (A = rksAll 0 hs) := hA
  have ZP : Hid (zs.Perm (List.range A.length)) := hp
  have NI : Hid _ := nmi
  have HVB : Hid (∀ s k e x, At hs s k e x → x.v < 900 ∧ x.x < 900) := hvb
  have hbw : b < w.heap.size := MF0.lt
  have L3 : Hid (hs[r.s]? = some l) := hl0
  have T3 : Hid (l[r.k]? = some t) := ht0
  have HX0 : Hid (t.evs[e]? = some x) := hx0
  have AT : Hid ((ats A zs)[v]? = some (r.s, r.k)) := hat0
  have CM : Hid (Cm hs r.s r.k) := hcm0
  have HAT : Hid (At hs r.s r.k e x) := ⟨l, t, hl0, ht0, hx0⟩
  have HEN : Hid (EvN hs A zs v e x) := ⟨(r.s, r.k), hat0, l, t, hl0, ht0, hx0⟩
  have HN : Hid (om x.x = some n) := hn0
  have HK : Hid (x.k = 0) := hk0
  have HI : Hid (x.i = false) := hi0
  have FQ : Hid (F x.v = some q) := hq0
  have P9 : Hid _ := hP
  have E9 : Hid _ := hE
  have TI9 : Hid (∀ y, y ∈ T ↔ IniD hs A zs v e y v) := hT
  have HQ : Hid _ := hQ
  have RNH : Hid _ := hRN
  have HNO : Hid (¬ (q.s = r.s ∧ q.k = r.k)) := hno
  have NO : Hid (¬ OwnV F A zs v x.v) := by
    rintro ⟨q', z1, z2⟩
    rw [hq0] at z1; cases z1
    rw [hat0] at z2; injection z2 with z2; injection z2 with z2 z3
    exact hno ⟨z2.symm, z3.symm⟩
  have hfs := hE.fewS hvb
  have hfo := hE.fewO
  have hnl := hE.objAt hn0
  have heb : e < 1000 := by have := O.small3 l (List.mem_of_getElem? hl0) t (List.mem_of_getElem? ht0); have := (List.getElem?_eq_some_iff.mp hx0).1; omega
  obtain ⟨z, hz1, hz2, hz3, hz4⟩ := W.fwd x.v q hq0
  have hzx : z.x = x.x := by
    obtain ⟨s', k', e', v', y1, y2, y3, y4⟩ := O.reads _ _ _ _ HAT.out hk0 hi0
    obtain ⟨b1, b2, b3⟩ := O.uniq _ _ _ _ _ _ _ _ hz1 y1 hz2 y2 (by omega)
    rw [← b1, ← b2, ← b3] at y1
    rw [hz1.same y1]; exact y4
  have hqn : q.n < 0 := by
    rcases hz4 with ⟨hz4, _⟩ | ⟨e3, x3, y4, y5, y6, y7, y8⟩
    · omega
    · exact absurd y8 ((RO.oth _ _ _ _ HAT.out hcm0 hk0 hi0 _ _ _ _ hz1 hz2 hz3 hno).2 e3 x3 y5 y6 y7)
  obtain ⟨un, hu1, hu2, hu3⟩ := nmi.find hA hp (RO.com _ _ _ _ HAT.out hcm0 hk0 hi0 _ _ _ _ hz1 hz2 hz3)
  have Z1 : Hid (At hs q.s q.k q.e z) := hz1
  have Z2 : Hid (z.k = 1 ∧ z.v = x.v ∧ z.x = x.x ∧ q.n < 0) := ⟨hz2, hz3, hzx, hqn⟩
  have HU : Hid (NM (q.s, q.k) = some un) := hu1
  clear hz1 hz2 hz3 hz4 hzx hqn hu1 hu3
  clear H O W RO MF0 hA hp nmi hvb
  clear hl0 ht0 hx0 hat0 hcm0
  clear hn0 hk0 hi0 hq0 hP hE hT hQ hno hRN
  have bE7 : Blk wc bE 37 #[.int .u8 x.k, .int .u64 x.x, .int .u64 x.v, .bool x.i] := P9.out.mem (i := 12) rfl
  have e2 : wc.cell? ⟨bE, 2, none⟩ = some (.int .u64 x.v) := bE7.cell 2
  clear bE7
  obtain ⟨ov, hov⟩ : ∃ z : Value, z = ((sm x.v).map (ik .i64)).getD (.int .i64 0) := ⟨_, rfl⟩
  obtain ⟨ob, hob⟩ : ∃ z : Bool, z = ((sm x.v).map (ik .i64)).isSome := ⟨_, rfl⟩
  have HOV : Hid (ov = ((sm x.v).map (ik .i64)).getD (.int .i64 0)) := hov
  have HOB : Hid (ob = ((sm x.v).map (ik .i64)).isSome) := hob
  clear hov hob
  conv => arg 2; whnf
  go_upto_if 264 with (at_lookup; refine wpList_look2 rfl (.tmp 257) (.tmp 259) 136 rfl Ybaz.underlying136 key35 (bO + 1) _ (P9.out.mem (i := 9) rfl) x.v zero3 rfl rfl ov ob HOV.out.symm HOB.out.symm ?_)
  rename_i Kc hKc
  have HKc : Hid _ := hKc
  clear hKc
  clear e2
  refine wp_cutC [none, none, none, none, none, none, none, none, none, none, none, none, none, none, none, none, none, none, none, none, none, none, none, none, none, none, none, none, none, none, none, none, none, none, none, some (some false), none, none, none, none, none, none, none, none, none, none, none, none, none, none, none, none, none, none, none, none, none, none, none, none, none, none, none, none, none, none, none, none, none, none, none, none, none, none, none, none, none, none, none, none, none, none, none, none, none, none, none, none, none, none, none, none, none, none, none, none, none, none, none, none, none, none, none, none, none, none, none, none, none, none, none, none, none, none, none, none, none, none, none, none, none, none, none, none, none, none, none, none, none, none, none, none, none, none, none, none, none, none, none, none, none, none, none, none, none, none, none, none, none, none, none, none, none, none, none, none, none, none, none, none, none, none, none, none, none, none, none, none, none, none, none, none, none, none, none, none, none, none, none, none, none, none, none, none, none, none, none, none, none, none, none, none, none, none, none, none, none, none, none, none, none, none, none, none, none, none, none, none, none, none, none, none, none, none, none, none, none, none, none, none, none, none, none, none, none, none, none, none, none, none, none, none, none, none, none, none, none, none, none, none, none, none, none, none, none, none, none, none, none, none, none, none, none, none, none, none, none, none, none, none, none, none, none, none, none, some none, some none, some none, some none, some none, some none, some none, some none, some none, some none, some none, some none, some none, some none, some none, some none, some none, some none, some none, some none, some none, some none, some none, some none, some none, some none, some none, some none, some none, some none, some none, some none, some none, none, none, none, none, none, none, none, none, none, none, none, none, none, none, none, none, none, none, none, none, none, none, none, none, none, none, none, none, none, none, none, none, none, none, none, none, none, none, none, none, none, none, none, none, none, none, none, none, none, none, none, none, none, none, none, none, none, none, none, none, none, none, none, none, none, none, none, none, none, none, none, none, none, none, none, none, none, none, none, none, none, none, none, none, none, none, none, none, none, none, none, none, none, none, none, none, none, none, none, none, none, none, none, none, none, none, none, none, none, none, none, none, none, none, none, none, none, none, none, none, none, none, none, none, none, none, none, none, none, none, none, none, none, none, none, none, none, none, none, none, none, none, none, none, none, none, none, none, none, none, none, none, none, none, none, none, none, none, none, none, none, none, none, none, none, none, none, none, none, none, none, none, none, none, none, none, none, none, none, none, none, none, none, none, none, none, none, none, none, none, none, none, none, none, none, none, none, none, none, none, none, none, none, none, none, none, none, none, none] (fun x35 _ wd => ∃ (k : Nat) (g : GG) (sg : SG) (ss : List Sr) (sm : Nat → Option Nat) (vers : List Nat), x35 = .int .i64 k ∧ sm x.v = some k ∧ Pcs w wd (LE w R.top hs.length cap A fC nV fV bF zs bN NS g G J0 sg ss og os TX NM bO om sm T ++ [([bA], BlkIs bA 105 #[.int .i64 r.s, .int .i64 r.k])] ++ [([bE], BlkIs bE 37 #[.int .u8 x.k, .int .u64 x.x, .int .u64 x.v, .bool x.i])] ++ [([bW], BlkIs bW 114 #[.int .i64 q.s, .int .i64 q.k, .int .i64 q.e, .int .i64 q.n])]) ∧ EI hs F A zs NM v e om sm vars vers os ss G (v * 4000 + 3 * e + 2) ∧ (∀ (j : Nat) (s : Sr), ss[j]? = some s → j ≠ k → s.rd ≠ [])) ?_ ?_
  · as_aux_lemma =>
    intro J8 K8 hJ8 hK8
    have HJ8 : Hid _ := hJ8
    clear hJ8
    rcases hsm : sm x.v with _ | k
    · as_aux_lemma =>
      have eb : ob = false := by rw [HOB.out, hsm]; rfl
      have ev : ov = .int .i64 0 := by rw [HOV.out, hsm]; rfl
      subst eb
      subst ev
      have HSM : Hid (sm x.v = none) := hsm
      clear hsm
      have bE7 : Blk wc bE 37 #[.int .u8 x.k, .int .u64 x.x, .int .u64 x.v, .bool x.i] := P9.out.mem (i := 12) rfl
      have e2 : wc.cell? ⟨bE, 2, none⟩ = some (.int .u64 x.v) := bE7.cell 2
      have PG : Poly (bN + 1) bN bF A.length g G J0 sg ss og os wc := P9.out.mem (i := 5) rfl
      have d4 : wc.cell? ⟨bN + 1, 4, none⟩ = some (.slice sg.a ss.length sg.c) := (PG.cell (j := 4) rfl).1
      have MO : Hid (MapAt wc (ik .u64) (bO + 1) (fun y => (sm y).map (ik .i64))) := P9.out.mem (i := 9) rfl
      clear PG bE7
      go_upto_region 65 with (at_mapUpdate; refine wpList_put rfl (.tmp 270) (.tmp 272) (.tmp 273) 136 rfl Ybaz.underlying136 key35 (bO + 1) _ MO.out x.v (.int .i64 ss.length) rfl rfl rfl ?_; intro w2 m2 u2; have M2 : Hid _ := m2; have U2 : Hid _ := u2; clear m2 u2)
      rw [put_none]
      have PB : Hid (Pcs w w2 (LE w R.top hs.length cap A fC nV fV bF zs bN NS g G J0 sg ss og os TX NM bO om (fun z => if z = x.v then some ss.length else sm z) T ++ [([bA], BlkIs bA 105 #[.int .i64 r.s, .int .i64 r.k])] ++ [([bE], BlkIs bE 37 #[.int .u8 x.k, .int .u64 x.x, .int .u64 x.v, .bool x.i])] ++ [([bW], BlkIs bW 114 #[.int .i64 q.s, .int .i64 q.k, .int .i64 q.e, .int .i64 q.n])])) := P9.out.put (i := 9) rfl U2.out (P' := fun z => MapAt z (ik .u64) (bO + 1) (fun y => ((fun z => if z = x.v then some ss.length else sm z) y).map (ik .i64))) (M2.out.congr (fun y => by by_cases c : y = x.v <;> simp [c, ik])) (mapKeeps _ _ _) (fun k hk => ⟨.inl hk, by simp at hk; subst hk; exact M2.out.lt⟩) (by simp)
      clear e2 d4 MO M2 U2 P9
      have bE7 : Blk w2 bE 37 #[.int .u8 x.k, .int .u64 x.x, .int .u64 x.v, .bool x.i] := PB.out.mem (i := 12) rfl
      have e2 : w2.cell? ⟨bE, 2, none⟩ = some (.int .u64 x.v) := bE7.cell 2
      have bW7 : Blk w2 bW 114 #[.int .i64 q.s, .int .i64 q.k, .int .i64 q.e, .int .i64 q.n] := PB.out.mem (i := 13) rfl
      have b0 : w2.cell? ⟨bW, 0, none⟩ = some (.int .i64 q.s) := bW7.cell 0
      have b1 : w2.cell? ⟨bW, 1, none⟩ = some (.int .i64 q.k) := bW7.cell 1
      have PG : Poly (bN + 1) bN bF A.length g G J0 sg ss og os w2 := PB.out.mem (i := 5) rfl
      have d4 : w2.cell? ⟨bN + 1, 4, none⟩ = some (.slice sg.a ss.length sg.c) := (PG.cell (j := 4) rfl).1
      have f4 := (PG.cell (j := 4) rfl).2
      have hlt4 : bN + 1 < w2.heap.size := World.block_lt_of_cell? _ _ d4
      have hnf : bN + 1 ∉ sg.fO := fun hm => by
        have := PG.nd
        simp only [polyFp, List.nodup_cons, List.mem_append, not_or] at this
        exact this.1.2.1 (by simp [SG.foot, hm])
      have MN : MapAt w2 k2 (bN + 3) (fun p => (NM p).map (ik .i64)) := PB.out.mem (i := 7) rfl
      have hlk : ∀ k, (Instr.lookup 134 (.map (some (bN + 3))) (.agg #[.int .i64 q.s, .int .i64 q.k]) false).run Ybaz.prog (w2.drewN k) = .ok (.int .i64 un) (w2.drewN k) := fun k => by
        have := (MN.keep (Upd.drewN [] w2 k) (by simp)).look (P := Ybaz.prog) key105 Ybaz.underlying134 zero3 (q.s, q.k) false
        simp only [HU.out] at this
        exact this
      have BV : VerU (w.heap.size + 2) nV fV w2 := PB.out.mem (i := 2) rfl
      obtain ⟨aV, cV, v1, v2⟩ := BV
      have KR : Hid (∀ z : Nat, Calls Ybaz.prog 29 #[.int .u64 x.v, .pointer (some ⟨w.heap.size + 2, 0, none⟩)] (w2.drewN z) fun e w' => ∃ rk : Nat, rk ≤ nV ∧ e = .returned (.int .i64 (rk : Int)) ∧ ∃ m, w' = (w2.drewN z).drewN m) := fun z => rank29 (w.heap.size + 2) aV nV cV x.v (by omega) (w2.drewN z) v1 (fun h => by obtain ⟨g, a, _, c⟩ := v2 h; exact ⟨g, a, c.drewN _⟩)
      clear v1 v2
      obtain ⟨gK, cK, wK, hK'⟩ := append_fn w2 89 142 4 48 slSrs (by decide) sg.a ss.length sg.c sg.fO _ PG.sr.top (fun rk => [.int .i64 n, .int .i64 un, .int .i64 (rk : Int), .slice none 0 0]) (fun _ => rfl) (fun k u hu => by simp at hu; rcases hu with rfl | rfl | rfl | rfl <;> rfl) (by omega)
      have hrun : ∀ rk m : Nat, (Builtin.append_ #[89, 89] 89 #[.slice sg.a ss.length sg.c, .slice (some ⟨w2.heap.size, 0, none⟩) 1 1]).run Ybaz.prog ((w2.drewN (1 + m)).alloc (.cells #[.int .i64 n, .int .i64 un, .int .i64 (rk : Int), .slice none 0 0] 142)) = .ok (.slice (some ⟨gK rk m, 0, none⟩) (ss.length + 1) (cK rk m)) (wK rk m) := fun rk m => (hK' rk m).1
      have k5 : ∀ rk m, (wK rk m).cell? ⟨bN + 1, 4, none⟩ = some (.slice sg.a ss.length sg.c) := fun rk m => (hK' rk m).2.2.1.cell d4 hnf
      have j5 : ∀ rk m, (wK rk m).frozen? ⟨bN + 1, 4, none⟩ = false := fun rk m => (hK' rk m).2.2.1.free hlt4 f4 hnf
      have PD : Hid (∀ rk m, ∃ g' sg', Pcs w ((wK rk m).setCell ⟨bN + 1, 4, none⟩ (.slice (some ⟨gK rk m, 0, none⟩) (ss.length + 1) (cK rk m))) (LE w R.top hs.length cap A fC nV fV bF zs bN NS g' G J0 sg' (ss ++ [⟨n, un, rk, []⟩]) og os TX NM bO om (fun z => if z = x.v then some ss.length else sm z) T ++ [([bA], BlkIs bA 105 #[.int .i64 r.s, .int .i64 r.k])] ++ [([bE], BlkIs bE 37 #[.int .u8 x.k, .int .u64 x.x, .int .u64 x.v, .bool x.i])] ++ [([bW], BlkIs bW 114 #[.int .i64 q.s, .int .i64 q.k, .int .i64 q.e, .int .i64 q.n])])) := by
        intro rk m
        obtain ⟨_, s1, u1, f1⟩ := hK' rk m
        obtain ⟨g', sg', p1, p2, p3⟩ := PG.srNew (s := ⟨n, un, rk, []⟩) rfl s1 u1 f1
        exact ⟨g', sg', PB.out.put (i := 5) rfl p2 p1 (Poly.keeps _ _ _ _ _ _ _ _ _ _ _) p3 p1.nd⟩
      have UK : Hid (∀ rk m, Upd sg.fO w2 (wK rk m)) := fun rk m => (hK' rk m).2.2.1
      have inF : ∀ k ∈ sg.fO, k ∈ polyFp (bN + 1) g sg og := fun k hk => by simp [polyFp, SG.foot, hk]
      have nE : bE ∉ sg.fO := fun hm => PB.out.apart (i := 5) (j := 12) rfl rfl (by decide) bE (inF _ hm) (by simp)
      have nW : bW ∉ sg.fO := fun hm => PB.out.apart (i := 5) (j := 13) rfl rfl (by decide) bW (inF _ hm) (by simp)
      have nM : bN + 3 ∉ sg.fO := fun hm => PB.out.apart (i := 5) (j := 7) rfl rfl (by decide) (bN + 3) (inF _ hm) (by simp)
      have SU : Hid (∀ z, Upd sg.fO w2 z → (fun z : World => z.cell? ⟨bN + 1, 4, none⟩ = some (.slice sg.a ss.length sg.c) ∧ z.cell? ⟨bE, 2, none⟩ = some (.int .u64 x.v) ∧ z.cell? ⟨bW, 0, none⟩ = some (.int .i64 q.s) ∧ z.cell? ⟨bW, 1, none⟩ = some (.int .i64 q.k) ∧ (Instr.lookup 134 (.map (some (bN + 3))) (.agg #[.int .i64 q.s, .int .i64 q.k]) false).run Ybaz.prog z = .ok (.int .i64 un) z) z) := fun z hu => ⟨hu.cell d4 hnf, hu.cell e2 nE, hu.cell b0 nW, hu.cell b1 nW, by
        have := (MN.keep hu nM).look (P := Ybaz.prog) key105 Ybaz.underlying134 zero3 (q.s, q.k) false
        simp only [HU.out] at this
        exact this⟩
      have hbs3 := bs89
      clear hK' PG PB hnf bE7 bW7 MN inF nE nW nM hlk
      refine wp_cutC [none, none, none, none, none, none, none, none, none, none, none, none, none, none, none, none, none, none, none, none, none, none, none, none, none, none, none, none, none, none, none, none, none, none, none, none, none, none, none, none, none, none, none, none, none, none, none, none, none, none, none, none, none, none, none, none, none, none, none, none, none, none, none, none, none, none, none, none, none, none, none, none, none, none, none, none, none, none, none, none, none, none, none, none, none, none, none, none, none, none, none, none, none, none, none, none, none, none, none, none, none, none, none, none, none, none, none, none, none, none, none, none, none, none, none, none, none, none, none, none, none, none, none, none, none, none, none, none, none, none, none, none, none, none, none, none, none, none, none, none, none, none, none, none, none, none, none, none, none, none, none, none, none, none, none, none, none, none, none, none, none, none, none, none, none, none, none, none, none, none, none, none, none, none, none, none, none, none, none, none, none, none, none, none, none, none, none, none, none, none, none, none, none, none, none, none, none, none, none, none, none, none, none, none, none, none, none, none, none, none, none, none, none, none, none, none, none, none, none, none, none, none, none, none, none, none, none, none, none, none, none, none, none, none, none, none, none, none, none, none, none, none, none, none, none, none, none, none, none, none, none, none, none, none, none, none, none, none, none, none, none, none, none, none, none, none, none, none, none, none, none, none, none, none, some none, some none, some none, some none, some none, some none, some none, some none, some none, some none, some none, some none, some none, some none, some none, some none, some none, some none, some none, some none, some none, some none, some none, some none, none, none, none, none, none, none, none, none, none, none, none, none, none, none, none, none, none, none, none, none, none, none, none, none, none, none, none, none, none, none, none, none, none, none, none, none, none, none, none, none, none, none, none, none, none, none, none, none, none, none, none, none, none, none, none, none, none, none, none, none, none, none, none, none, none, none, none, none, none, none, none, none, none, none, none, none, none, none, none, none, none, none, none, none, none, none, none, none, none, none, none, none, none, none, none, none, none, none, none, none, none, none, none, none, none, none, none, none, none, none, none, none, none, none, none, none, none, none, none, none, none, none, none, none, none, none, none, none, none, none, none, none, none, none, none, none, none, none, none, none, none, none, none, none, none, none, none, none, none, none, none, none, none, none, none, none, none, none, none, none, none, none, none, none, none, none, none, none, none, none, none, none, none, none, none, none, none, none, none, none, none, none, none, none, none, none, none, none, none, none, none, none, none, none, none, none, none, none, none, none, none, none, none, none, none, none, none, none, none] (fun _ _ wd => ∃ (rk : Nat) (g' : GG) (sg' : SG), Pcs w wd (LE w R.top hs.length cap A fC nV fV bF zs bN NS g' G J0 sg' (ss ++ [⟨n, un, rk, []⟩]) og os TX NM bO om (fun z => if z = x.v then some ss.length else sm z) T ++ [([bA], BlkIs bA 105 #[.int .i64 r.s, .int .i64 r.k])] ++ [([bE], BlkIs bE 37 #[.int .u8 x.k, .int .u64 x.x, .int .u64 x.v, .bool x.i])] ++ [([bW], BlkIs bW 114 #[.int .i64 q.s, .int .i64 q.k, .int .i64 q.e, .int .i64 q.n])])) ?_ ?_
      · as_aux_lemma =>
        intro J9 K9 hJ9 hK9
        have HJ9 : Hid _ := hJ9
        clear hJ9
        refine wp_region_noPanic ?_
        refine wp_lex (fun z : World => z.cell? ⟨bN + 1, 4, none⟩ = some (.slice sg.a ss.length sg.c) ∧ z.cell? ⟨bE, 2, none⟩ = some (.int .u64 x.v) ∧ z.cell? ⟨bW, 0, none⟩ = some (.int .i64 q.s) ∧ z.cell? ⟨bW, 1, none⟩ = some (.int .i64 q.k) ∧ (Instr.lookup 134 (.map (some (bN + 3))) (.agg #[.int .i64 q.s, .int .i64 q.k]) false).run Ybaz.prog z = .ok (.int .i64 un) z) (fun k => decide (k < 22)) (fun k => decide (k < 18)) (by kernel_rfl) (by kernel_rfl) (by kernel_rfl) (fun _ _ _ _ _ h => h) ?_
        have HSH : Hid ((fun z : World => z.cell? ⟨bN + 1, 4, none⟩ = some (.slice sg.a ss.length sg.c) ∧ z.cell? ⟨bE, 2, none⟩ = some (.int .u64 x.v) ∧ z.cell? ⟨bW, 0, none⟩ = some (.int .i64 q.s) ∧ z.cell? ⟨bW, 1, none⟩ = some (.int .i64 q.k) ∧ (Instr.lookup 134 (.map (some (bN + 3))) (.agg #[.int .i64 q.s, .int .i64 q.k]) false).run Ybaz.prog z = .ok (.int .i64 un) z) w2.drew) := SU.out _ (Upd.drew _ _)
        iterate 18 (
          refine LexN.take rfl HSH.out ?_ rfl ?_ ?_
          rotate_left
          · intro z hz
            obtain ⟨hz1, hz2, hz3, hz4, hz5⟩ := hz
            go_simp
            try with_reducible rfl
          simp only [Act.put, List.setIfInBounds_toArray, List.set_cons_zero, List.set_cons_succ])
        refine LexN.step rfl rfl rfl (fun K hK => ?_)
        go_simp
        refine Calls.mono (KR.out 1) ?_
        rintro e' w' ⟨rk, hrk, rfl, m, rfl⟩
        refine hK.out _ _ (fun _ => SU.out _ ((Upd.drewN _ w2 1).trans (Upd.drewN sg.fO _ m) (fun _ h => .inl h))) ?_
        refine LexN.step rfl rfl rfl (fun K hK => ?_)
        go_simp
        refine hK.out _ _ (fun _ => SU.out _ (Upd.drewN _ _ _)) ?_
        refine LexN.step rfl rfl rfl (fun K hK => ?_)
        go_simp
        refine hK.out _ _ (fun _ => SU.out _ ((Upd.drewN _ w2 (1 + m)).trans (Upd.alloc sg.fO _ _) (fun _ h => .inl h))) ?_
        refine LexN.step rfl rfl rfl (fun K hK => ?_)
        go_simp
        refine hK.out _ _ (fun _ => SU.out _ (UK.out rk m)) ?_
        iterate 3 (
          refine LexN.step rfl rfl rfl (fun K hK => ?_)
          go_simp
          refine hK.out _ _ (fun h => by cases h) ?_)
        refine LexN.nil (NoPanic.normal ?_)
        refine hK9 _ _ ?_
        refine Met.intro ?_
        refine HJ9.out _ _ ?_
        refine MeetC.of undef undef ?_ ?_
        · rfl
        exact ⟨rk, PD.out rk m⟩
      · as_aux_lemma =>
        intro u9 x9 y9 wd hcut2
        obtain ⟨rk, g', sg', PD2⟩ := hcut2
        dsimp only [fillC, Nat.reduceAdd]
        have PDH : Hid _ := PD2
        clear PD2 PD KR hrun k5 j5 d4 e2 b0 b1 f4 SU UK
        go_wp2_with fail
        refine Met.intro ?_
        refine HJ8.out _ _ ?_
        refine MeetC.of (.int .i64 ss.length) undef ?_ ?_
        · rfl
        refine ⟨ss.length, g', sg', ss ++ [⟨n, un, rk, []⟩], (fun z => if z = x.v then some ss.length else sm z), vers ++ [x.v], rfl, by simp, ?_, ?_, fun j s9 hj hne => ?_⟩
        · exact PDH.out
        rotate_left
        · rcases Nat.lt_or_ge j ss.length with h | h
          · rw [List.getElem?_append_left h] at hj
            exact RNH.out s9 (List.mem_of_getElem? hj)
          · have hl := (List.getElem?_eq_some_iff.mp hj).1
            simp at hl
            omega
        refine E9.out.src HSM.out FQ.out HU.out Z1.out Z2.out.1 Z2.out.2.1 ?_ Z2.out.2.2.2 rfl
        rw [Z2.out.2.2.1]
        exact (E9.out.omI x.x n).mp HN.out
    · as_aux_lemma =>
      have eb : ob = true := by rw [HOB.out, hsm]; rfl
      have ev : ov = .int .i64 k := by rw [HOV.out, hsm]; rfl
      subst eb
      subst ev
      have HSM : Hid (sm x.v = some k) := hsm
      clear hsm
      go_wp2_with fail
      refine Met.intro ?_
      refine HJ8.out _ _ ?_
      refine MeetC.of (.int .i64 k) undef ?_ ?_
      · rfl
      exact ⟨k, g, sg, ss, sm, vers, rfl, HSM.out, P9.out, E9.out.up (by omega), fun j s9 hj _ => RNH.out s9 (List.mem_of_getElem? hj)⟩
  · as_aux_lemma =>
    intro u8 x8 y8 wd hcut
    obtain ⟨k, g, sg, ss, sm, vers, rfl, h0, h1, h2, h3⟩ := hcut
    dsimp only [fillC, Nat.reduceAdd]
    refine HKc.out _ _ ?_
    refine rd66 w R hs cap A fC nV fV bF zs bN NS J0 TX NM bO F b H'.out O'.out WW.out RO'.out MF.out HAR.out h12 ZP.out NI.out HVB.out hV g G sg ss og os om sm T vars vers v e bA r l t x L3.out T3.out HX0.out AT.out CM.out hv bE bW n q HN.out HK.out HI.out FQ.out HNO.out wd h1 h2 TI9.out k h0 h3 Q ?_
    intro a' w' hm
    obtain ⟨u, x1, y1, hr, rfl⟩ := hm
    dsimp only [fillC, Nat.reduceAdd]
    exact HQ.out _ _ (MeetC.of undef undef rfl hr)
end Go.Proofs.YbulkctquGreatFmt

/-
  newSessionPolygraph: a reader more.
-/
import Derived.Test.YbulkctquGreatFmtNspM
import Derived.Test.YbulkctquGreatFmtFlh
import Derived.Test.YbulkctquGreatFmtLex
import Derived.Deep.RegionHeld3
import Derived.Test.YbulkctquGreatFmtOver
import Derived.Deep.RegionWith
import Derived.BigQuiet
import Derived.Deep.DeepCutAuto
namespace Go.Proofs.YbulkctquGreatFmt
open Go.ChangeShapes Go.WideShapes Go.ChangeAt Go.RowKit Go.Ord
set_option linter.unusedVariables false
attribute [-go_sem] Go.Builtin.append_ Go.Instr.buildSlice
set_option maxHeartbeats 16000000 in
set_option maxRecDepth 100000 in
theorem rd66 {u0 u1 u2 u3 u4 u5 u6 u7 u8 u9 u10 u11 u12 u13 u14 u16 u17 u19 u21 u22 u23 u24 u26 u28 u29 u32 u33 u36 u37 u38 u39 u40 u41 u42 u43 u44 u45 u46 u47 u48 u49 u50 u51 u52 u53 u54 u55 u56 u57 u58 u59 u60 u61 u62 u63 u64 u65 u66 u67 u68 u69 u70 u71 u72 u73 u74 u75 u76 u77 u78 u79 u80 u81 u82 u83 u84 u85 u86 u87 u88 u89 u90 u91 u92 u93 u94 u95 u96 u97 u98 u99 u100 u101 u102 u103 u104 u105 u106 u107 u108 u109 u110 u111 u112 u113 u114 u115 u116 u117 u118 u119 u120 u121 u122 u123 u124 u125 u126 u127 u128 u129 u130 u131 u132 u133 u134 u135 u136 u137 u138 u139 u140 u141 u142 u143 u144 u145 u146 u147 u148 u149 u150 u151 u152 u153 u154 u155 u156 u157 u158 u159 u160 u161 u162 u163 u164 u165 u166 u167 u168 u169 u170 u171 u172 u173 u174 u175 u176 u177 u178 u179 u180 u181 u182 u183 u184 u185 u186 u187 u188 u189 u190 u191 u192 u193 u194 u195 u196 u197 u198 u199 u200 u201 u202 u203 u204 u205 u206 u207 u208 u209 u210 u211 u212 u213 u214 u215 u216 u217 u218 u219 u220 u221 u222 u223 u224 u225 u226 u227 u228 u229 u230 u231 u232 u233 u234 u235 u236 u237 u238 u239 u240 u241 u242 u243 u244 u245 u246 u247 u248 u249 u250 u251 u252 u253 u254 u255 u256 u257 u258 u259 u260 u261 u262 u263 u264 u265 u266 u267 u268 u269 u270 u271 u272 u273 u274 u275 u276 u277 u278 u279 u280 u281 u282 u283 u284 u285 u286 u287 u288 u289 u290 u291 u292 u293 u294 u295 u296 u297 u298 u299 u300 u301 u302 u303 u304 u305 u306 u307 u308 u309 u310 u311 u312 u313 u314 u315 u316 u317 u318 u319 u320 u321 u322 u323 u324 u325 u326 u327 u328 u329 u330 u331 u332 u333 u334 u335 u336 u337 u338 u339 u340 u341 u342 u343 u344 u345 u346 u347 u348 u349 u350 u351 u352 u353 u354 u355 u356 u357 u358 u359 u360 u361 u362 u363 u364 u365 u366 u367 u368 u369 u370 u371 u372 u373 u374 u375 u376 u377 u378 u379 u380 u381 u382 u383 u384 u385 u386 u387 u388 u389 u390 u391 u392 u393 u394 u395 u396 u397 u398 u399 u400 u401 u402 u403 u404 u405 u406 u407 u408 u409 u410 u411 u412 u413 u414 u415 u416 u417 u418 u419 u420 u421 u422 u423 u424 u425 u426 u427 u428 u429 u430 u431 u432 u433 u434 u435 u436 u437 u438 u439 u440 u441 u442 u443 u444 u445 u446 u447 u448 u449 u450 u451 u452 u453 u454 u455 u456 u457 u458 u459 u460 u461 u462 u463 u464 u465 u466 u467 u468 u469 u470 u471 u472 u473 u474 u475 u476 u477 u478 u479 u480 u481 u482 u483 u484 u485 u486 u487 u488 u489 u490 u491 u492 u493 u494 u495 u496 u497 u498 u499 u500 u501 u502 u503 u504 u505 u506 : Value} (w : World) (R : HR) (hs : List (List Tx)) (cap : Nat) (A : List Rk) (fC : List Nat) (nV : Nat) (fV : List Nat) (bF : Nat) (zs : List Nat) (bN : Nat) (NS : List (List UInt8)) (J0 : List Bool) (TX : List (Nat × Nat)) (NM : Nat × Nat → Option Nat) (bO : Nat) (F : Nat → Option Wr) (b : Nat) (H : HistE w R hs) (O : HOk hs) (W : WF hs F) (RO : ROk hs) (MF0 : MapAt w (ik .u64) b (fun v => (F v).map Wr.val)) (hA : A = rksAll 0 hs) (h12 : A.length ≤ 12) (hp : zs.Perm (List.range A.length)) (nmi : NMI A zs A.length NM) (hvb : ∀ s k e x, At hs s k e x → x.v < 900 ∧ x.x < 900) (hV : nV ≤ 10000) (g : GG) (G : List (List Nat)) (sg : SG) (ss : List Sr) (og : OG) (os : List Ob) (om sm : Nat → Option Nat) (T vars vers : List Nat) (v e bA : Nat) (r : Rk) (l : List Tx) (t : Tx) (x : Ev) (hl0 : hs[r.s]? = some l) (ht0 : l[r.k]? = some t) (hx0 : t.evs[e]? = some x) (hat0 : (ats A zs)[v]? = some (r.s, r.k)) (hcm0 : Cm hs r.s r.k) (hv : v < A.length) (bE bW n : Nat) (q : Wr) (hn0 : om x.x = some n) (hk0 : x.k = 0) (hi0 : x.i = false) (hq0 : F x.v = some q) (hno : ¬ (q.s = r.s ∧ q.k = r.k)) (wc : World) (hP : Pcs w wc (LE w R.top hs.length cap A fC nV fV bF zs bN NS g G J0 sg ss og os TX NM bO om sm T ++ [([bA], BlkIs bA 105 #[.int .i64 r.s, .int .i64 r.k])] ++ [([bE], BlkIs bE 37 #[.int .u8 x.k, .int .u64 x.x, .int .u64 x.v, .bool x.i])] ++ [([bW], BlkIs bW 114 #[.int .i64 q.s, .int .i64 q.k, .int .i64 q.e, .int .i64 q.n])])) (hE : EI hs F A zs NM v e om sm vars vers os ss G (v * 4000 + 3 * e + 2)) (hT : ∀ y, y ∈ T ↔ IniD hs A zs v e y v) (k : Nat) (hsm0 : sm x.v = some k) (hRN : ∀ (j : Nat) (s : Sr), ss[j]? = some s → j ≠ k → s.rd ≠ []) (Q : Exit → Act → World → Prop)
    (hQ : ∀ a' w', MeetC [none, none, none, none, none, none, none, none, none, none, none, none, none, none, none, none, none, none, none, none, none, none, none, none, none, none, none, none, none, none, none, none, none, none, none, none, none, some none, some none, none, none, none, none, none, none, none, none, none, none, none, none, none, none, none, none, none, none, none, none, none, none, none, none, none, none, none, none, none, none, none, none, none, none, none, none, none, none, none, none, none, none, none, none, none, none, none, none, none, none, none, none, none, none, none, none, none, none, none, none, none, none, none, none, none, none, none, none, none, none, none, none, none, none, none, none, none, none, none, none, none, none, none, none, none, none, none, none, none, none, none, none, none, none, none, none, none, none, none, none, none, none, none, none, none, none, none, none, none, none, none, none, none, none, none, none, none, none, none, none, none, none, none, none, none, none, none, none, none, none, none, none, none, none, none, none, none, none, none, none, none, none, none, none, none, none, none, none, none, none, none, none, none, none, none, none, none, none, none, none, none, none, none, none, none, none, none, none, none, none, none, none, none, none, none, none, none, none, none, none, none, none, none, none, none, none, none, none, none, none, none, none, none, none, none, none, none, none, none, none, none, none, none, none, none, none, none, none, none, none, none, none, none, none, none, none, none, none, none, none, none, none, none, none, none, none, none, none, none, none, none, none, none, none, none, none, none, none, none, none, none, none, none, none, none, none, none, none, none, none, none, none, none, none, none, none, none, none, none, some none, some none, some none, some none, some none, some none, some none, some none, some none, some none, some none, some none, some none, some none, some none, some none, some none, some none, some none, some none, some none, some none, some none, some none, some none, some none, some none, some none, some none, some none, some none, some none, some none, some none, some none, some none, some none, some none, some none, some none, some none, some none, some none, some none, none, none, none, none, none, none, none, none, none, none, none, none, none, none, none, none, none, none, none, none, none, none, none, none, none, none, none, none, none, none, none, none, none, none, none, none, none, none, none, none, none, none, none, none, none, none, none, none, none, none, none, none, none, none, none, none, none, none, none, none, none, none, none, none, none, none, none, none, none, none, none, none, none, none, none, none, none, none, none, none, none, none, none, none, none, none, none, none, none, none, none, none, none, none, none, none, none, none, none, none, none, none, none, none, none, none, none, none, none, none, none, none, none, none, none, none, none, none, none, none, none, none, none, none, none, none, none, none, none, none, none, none, none, none, none, none, none, none, none, none, none, none, none, none, none, none, none, none, none, none, none, none, none, none, none, none, none, none, none, none, none, none, none, none, none] [u0, u1, u2, u3, u4, u5, u6, u7, u8, u9, u10, u11, u12, u13, u14, .func (.func 29) #[] #[.pointer (some ⟨w.heap.size + 2, 0, none⟩)], u16, u17, .pointer (some ⟨bN + 1, 0, none⟩), u19, .map (some (bN + 3)), u21, u22, u23, u24, .map (some (bO + 1)), u26, .int .i64 v, u28, u29, .pointer (some ⟨bE, 0, none⟩), .int .i64 n, u32, u33, .pointer (some ⟨bW, 0, none⟩), .int .i64 k, u36, u37, u38, u39, u40, u41, u42, u43, u44, u45, u46, u47, u48, u49, u50, u51, u52, u53, u54, u55, u56, u57, u58, u59, u60, u61, u62, u63, u64, u65, u66, u67, u68, u69, u70, u71, u72, u73, u74, u75, u76, u77, u78, u79, u80, u81, u82, u83, u84, u85, u86, u87, u88, u89, u90, u91, u92, u93, u94, u95, u96, u97, u98, u99, u100, u101, u102, u103, u104, u105, u106, u107, u108, u109, u110, u111, u112, u113, u114, u115, u116, u117, u118, u119, u120, u121, u122, u123, u124, u125, u126, u127, u128, u129, u130, u131, u132, u133, u134, u135, u136, u137, u138, u139, u140, u141, u142, u143, u144, u145, u146, u147, u148, u149, u150, u151, u152, u153, u154, u155, u156, u157, u158, u159, u160, u161, u162, u163, u164, u165, u166, u167, u168, u169, u170, u171, u172, u173, u174, u175, u176, u177, u178, u179, u180, u181, u182, u183, u184, u185, u186, u187, u188, u189, u190, u191, u192, u193, u194, u195, u196, u197, u198, u199, u200, u201, u202, u203, u204, u205, u206, u207, u208, u209, u210, u211, u212, u213, u214, u215, u216, u217, u218, u219, u220, u221, u222, u223, u224, u225, u226, u227, u228, u229, u230, u231, u232, u233, u234, u235, u236, u237, u238, u239, u240, u241, u242, u243, u244, u245, u246, u247, u248, u249, u250, u251, u252, u253, u254, u255, u256, u257, u258, u259, u260, u261, u262, u263, u264, u265, u266, u267, u268, u269, u270, u271, u272, u273, u274, u275, u276, u277, u278, u279, u280, u281, u282, u283, u284, u285, u286, u287, u288, u289, u290, u291, u292, u293, u294, u295, u296, u297, u298, u299, u300, u301, u302, u303, u304, u305, u306, u307, u308, u309, u310, u311, u312, u313, u314, u315, u316, u317, u318, u319, u320, u321, u322, u323, u324, u325, u326, u327, u328, u329, u330, u331, u332, u333, u334, u335, u336, u337, u338, u339, u340, u341, u342, u343, u344, u345, u346, u347, u348, u349, u350, u351, u352, u353, u354, u355, u356, u357, u358, u359, u360, u361, u362, u363, u364, u365, u366, u367, u368, u369, u370, u371, u372, u373, u374, u375, u376, u377, u378, u379, u380, u381, u382, u383, u384, u385, u386, u387, u388, u389, u390, u391, u392, u393, u394, u395, u396, u397, u398, u399, u400, u401, u402, u403, u404, u405, u406, u407, u408, u409, u410, u411, u412, u413, u414, u415, u416, u417, u418, u419, u420, u421, u422, u423, u424, u425, u426, u427, u428, u429, u430, u431, u432, u433, u434, u435, u436, u437, u438, u439, u440, u441, u442, u443, u444, u445, u446, u447, u448, u449, u450, u451, u452, u453, u454, u455, u456, u457, u458, u459, u460, u461, u462, u463, u464, u465, u466, u467, u468, u469, u470, u471, u472, u473, u474, u475, u476, u477, u478, u479, u480, u481, u482, u483, u484, u485, u486, u487, u488, u489, u490, u491, u492, u493, u494, u495, u496, u497, u498, u499, u500, u501, u502, u503, u504, u505, u506] [] (fun _ _ wc => ∃ (g : GG) (G : List (List Nat)) (sg : SG) (ss : List Sr) (og : OG) (os : List Ob) (sm : Nat → Option Nat) (vers T : List Nat), Pcs w wc (LE w R.top hs.length cap A fC nV fV bF zs bN NS g G J0 sg ss og os TX NM bO om sm T ++ [([bA], BlkIs bA 105 #[.int .i64 r.s, .int .i64 r.k])]) ∧ EI hs F A zs NM v (e + 1) om sm vars vers os ss G (v * 4000 + 3 * (e + 1)) ∧ (∀ y, y ∈ T ↔ IniD hs A zs v (e + 1) y v) ∧ (∀ s ∈ ss, s.rd ≠ [])) a' w' → Q .normal a' w') : c66.wp Ybaz.prog Q ⟨[u0, u1, u2, u3, u4, u5, u6, u7, u8, u9, u10, u11, u12, u13, u14, .func (.func 29) #[] #[.pointer (some ⟨w.heap.size + 2, 0, none⟩)], u16, u17, .pointer (some ⟨bN + 1, 0, none⟩), u19, .map (some (bN + 3)), u21, u22, u23, u24, .map (some (bO + 1)), u26, .int .i64 v, u28, u29, .pointer (some ⟨bE, 0, none⟩), .int .i64 n, u32, u33, .pointer (some ⟨bW, 0, none⟩), .int .i64 k, u36, u37, u38, u39, u40, u41, u42, u43, u44, u45, u46, u47, u48, u49, u50, u51, u52, u53, u54, u55, u56, u57, u58, u59, u60, u61, u62, u63, u64, u65, u66, u67, u68, u69, u70, u71, u72, u73, u74, u75, u76, u77, u78, u79, u80, u81, u82, u83, u84, u85, u86, u87, u88, u89, u90, u91, u92, u93, u94, u95, u96, u97, u98, u99, u100, u101, u102, u103, u104, u105, u106, u107, u108, u109, u110, u111, u112, u113, u114, u115, u116, u117, u118, u119, u120, u121, u122, u123, u124, u125, u126, u127, u128, u129, u130, u131, u132, u133, u134, u135, u136, u137, u138, u139, u140, u141, u142, u143, u144, u145, u146, u147, u148, u149, u150, u151, u152, u153, u154, u155, u156, u157, u158, u159, u160, u161, u162, u163, u164, u165, u166, u167, u168, u169, u170, u171, u172, u173, u174, u175, u176, u177, u178, u179, u180, u181, u182, u183, u184, u185, u186, u187, u188, u189, u190, u191, u192, u193, u194, u195, u196, u197, u198, u199, u200, u201, u202, u203, u204, u205, u206, u207, u208, u209, u210, u211, u212, u213, u214, u215, u216, u217, u218, u219, u220, u221, u222, u223, u224, u225, u226, u227, u228, u229, u230, u231, u232, u233, u234, u235, u236, u237, u238, u239, u240, u241, u242, u243, u244, u245, u246, u247, u248, u249, u250, u251, u252, u253, u254, u255, u256, u257, u258, u259, u260, u261, u262, u263, u264, u265, u266, u267, u268, u269, u270, u271, u272, u273, u274, u275, u276, u277, u278, u279, u280, u281, u282, u283, u284, u285, u286, u287, u288, u289, u290, u291, u292, u293, u294, u295, u296, u297, u298, u299, u300, u301, u302, u303, u304, u305, u306, u307, u308, u309, u310, u311, u312, u313, u314, u315, u316, u317, u318, u319, u320, u321, u322, u323, u324, u325, u326, u327, u328, u329, u330, u331, u332, u333, u334, u335, u336, u337, u338, u339, u340, u341, u342, u343, u344, u345, u346, u347, u348, u349, u350, u351, u352, u353, u354, u355, u356, u357, u358, u359, u360, u361, u362, u363, u364, u365, u366, u367, u368, u369, u370, u371, u372, u373, u374, u375, u376, u377, u378, u379, u380, u381, u382, u383, u384, u385, u386, u387, u388, u389, u390, u391, u392, u393, u394, u395, u396, u397, u398, u399, u400, u401, u402, u403, u404, u405, u406, u407, u408, u409, u410, u411, u412, u413, u414, u415, u416, u417, u418, u419, u420, u421, u422, u423, u424, u425, u426, u427, u428, u429, u430, u431, u432, u433, u434, u435, u436, u437, u438, u439, u440, u441, u442, u443, u444, u445, u446, u447, u448, u449, u450, u451, u452, u453, u454, u455, u456, u457, u458, u459, u460, u461, u462, u463, u464, u465, u466, u467, u468, u469, u470, u471, u472, u473, u474, u475, u476, u477, u478, u479, u480, u481, u482, u483, u484, u485, u486, u487, u488, u489, u490, u491, u492, u493, u494, u495, u496, u497, u498, u499, u500, u501, u502, u503, u504, u505, u506].toArray, []⟩ wc := by
  have H' : Hid _ := H
  have O' : Hid _ := O
  have WW : Hid _ := W
  have RO' : Hid _ := RO
  have MF : Hid _ := MF0
  have HAR : Hid (A = rksAll 0 hs) := hA
  have ZP : Hid (zs.Perm (List.range A.length)) := hp
  have NI : Hid _ := nmi
  have HVB : Hid (∀ s k e x, At hs s k e x → x.v < 900 ∧ x.x < 900) := hvb
  have hbw : b < w.heap.size := MF0.lt
  have L3 : Hid (hs[r.s]? = some l) := hl0
  have T3 : Hid (l[r.k]? = some t) := ht0
  have HX0 : Hid (t.evs[e]? = some x) := hx0
  have AT : Hid ((ats A zs)[v]? = some (r.s, r.k)) := hat0
  have CM : Hid (Cm hs r.s r.k) := hcm0
  have HAT : Hid (At hs r.s r.k e x) := ⟨l, t, hl0, ht0, hx0⟩
  have HEN : Hid (EvN hs A zs v e x) := ⟨(r.s, r.k), hat0, l, t, hl0, ht0, hx0⟩
  have HN : Hid (om x.x = some n) := hn0
  have HK : Hid (x.k = 0) := hk0
  have HI : Hid (x.i = false) := hi0
  have FQ : Hid (F x.v = some q) := hq0
  have P9 : Hid _ := hP
  have E9 : Hid _ := hE
  have TI9 : Hid (∀ y, y ∈ T ↔ IniD hs A zs v e y v) := hT
  have HQ : Hid _ := hQ
  have RNH : Hid _ := hRN
  have HNO : Hid (¬ (q.s = r.s ∧ q.k = r.k)) := hno
  have NO : Hid (¬ OwnV F A zs v x.v) := by
    rintro ⟨q', z1, z2⟩
    rw [hq0] at z1; cases z1
    rw [hat0] at z2; injection z2 with z2; injection z2 with z2 z3
    exact hno ⟨z2.symm, z3.symm⟩
  have hfs := hE.fewS hvb
  have hfo := hE.fewO
  have hnl := hE.objAt hn0
  have heb : e < 1000 := by have := O.small3 l (List.mem_of_getElem? hl0) t (List.mem_of_getElem? ht0); have := (List.getElem?_eq_some_iff.mp hx0).1; omega
  have HSM : Hid (sm x.v = some k) := hsm0
  clear H O W RO MF0 hA hp nmi hvb
  clear hl0 ht0 hx0 hat0 hcm0
  clear hn0 hk0 hi0 hq0 hP hE hT hQ hno hRN
  clear hsm0
  have hkl := E9.out.srcAt HSM.out
  obtain ⟨s, hs9⟩ := has_at ss hkl
  have SK : Hid (ss[k]? = some s) := hs9
  have hv9 : vers[k]? = some x.v := (E9.out.smI x.v k).mp HSM.out
  obtain ⟨⟨q2, z2, i1, i2, i3⟩, i4, i5⟩ := E9.out.srI k s x.v hs9 hv9
  have hwA : s.wr < A.length := (NI.out.fwd _ _ i2).1
  have RDI : Hid (∀ u, u ∈ s.rd ↔ RdD hs F A zs v e x.v u) := i4
  have RPW : Hid (s.rd.Pairwise (· < ·)) := i5
  have hle : ∀ u ∈ s.rd, u ≤ v := fun u hu => by
    obtain ⟨⟨i, z, w1, _⟩, _⟩ := (i4 u).mp hu
    unfold Done at w1; omega
  have hrl : s.rd.length ≤ 12 := by
    have := (E9.out.boundS ZP.out NI.out s (List.mem_of_getElem? hs9)).2.2.2
    omega
  have PG : Poly (bN + 1) bN bF A.length g G J0 sg ss og os wc := P9.out.mem (i := 5) rfl
  obtain ⟨bS, vv, f, ea, cw, cr, zr, nr, q4, q5, q6, q7, q8⟩ := PG.sr.row hs9
  have d4 : wc.cell? ⟨bN + 1, 4, none⟩ = some (.slice (some ⟨bS, 0, none⟩) ss.length sg.c) := by rw [← ea]; exact (PG.cell (j := 4) rfl).1
  rw [nr] at cr q4 q8
  have hltS : bS < wc.heap.size := World.block_lt_of_cell? _ _ cr
  clear hs9 hv9 i1 i2 i3 i4 i5
  conv => arg 2; whnf
  go_upto_region 68 with fail
  clear d4
  by_cases hm : v ∈ s.rd
  · as_aux_lemma =>
    have hpos : 0 < s.rd.length := by cases h : s.rd with | nil => rw [h] at hm; simp at hm | cons a b => simp
    have hlast : s.rd[s.rd.length - 1]? = some v := by
      obtain ⟨j, hj⟩ := List.getElem?_of_mem hm
      have hjl := (List.getElem?_eq_some_iff.mp hj).1
      obtain ⟨y, hy⟩ := has_at s.rd (k := s.rd.length - 1) (by omega)
      have hyv := hle y (List.mem_of_getElem? hy)
      by_cases hje : j = s.rd.length - 1
      · rw [← hje]; exact hj
      · have hp := RPW.out
        rw [List.pairwise_iff_getElem] at hp
        obtain ⟨g1, g2⟩ := List.getElem?_eq_some_iff.mp hj
        obtain ⟨g3, g4⟩ := List.getElem?_eq_some_iff.mp hy
        have := hp j (s.rd.length - 1) g1 g3 (by omega)
        rw [g2, g4] at this; omega
    obtain ⟨bc, y1, _, y2⟩ := q4.get (j := s.rd.length - 1) (v := nI v) (by simp [hlast])
    have y3 : wc.cell? ⟨bc, s.rd.length - 1, none⟩ = some (.int .i64 v) := y2
    rw [y1] at cr
    have hb0 : ((s.rd.length : Int) == 0) = false := by simp only [beq_eq_false_iff_ne, ne_eq]; omega
    have HM : Hid (v ∈ s.rd) := hm
    clear hlast hle hm y2 q4 q5 q6 q7 q8 PG y1 ea nr
    go_wp2_with fail
    refine HQ.out _ _ ?_
    refine MeetC.of undef undef ?_ ?_
    · rfl
    refine ⟨g, G, sg, ss, og, os, sm, vers, T, P9.out.take 12, ?_, fun y => ?_, fun s9 hs9 => ?_⟩
    · refine (E9.out.pass HEN.out HN.out (fun hk => ?_) (fun _ hi => ?_) (fun _ _ _ => (RDI.out v).mp HM.out)).up (by omega)
      · rw [HK.out] at hk; cases hk
      · rw [HI.out] at hi; cases hi
    · rw [TI9.out y, IniD.step HEN.out]
      exact ⟨.inl, fun h => h.elim id (fun h => by rw [HI.out] at h; exact absurd h.2.2.1 (by decide))⟩
    · obtain ⟨j, hj⟩ := List.getElem?_of_mem hs9
      by_cases c : j = k
      · subst c
        rw [SK.out] at hj; cases hj
        intro h; rw [h] at HM; exact absurd HM.out (by simp)
      · exact RNH.out j s9 hj c
  · have HM : Hid (v ∉ s.rd) := hm
    have PGH : Hid _ := PG
    have CR : Hid (wc.cell? ⟨bS, k * 4 + 3, none⟩ = some (.slice vv.a s.rd.length vv.c)) := cr
    have Q4 : Hid (Sl wc 3 1 vv.a s.rd.length vv.c f (s.rd.map nI)) := q4
    have Q8 : Hid _ := q8
    clear q8
    refine wp_cutC [none, none, none, none, none, none, none, none, none, none, none, none, none, none, none, none, none, none, none, none, none, none, none, none, none, none, none, none, none, none, none, none, none, none, none, none, none, none, none, none, none, none, none, none, none, none, none, none, none, none, none, none, none, none, none, none, none, none, none, none, none, none, none, none, none, none, none, none, none, none, none, none, none, none, none, none, none, none, none, none, none, none, none, none, none, none, none, none, none, none, none, none, none, none, none, none, none, none, none, none, none, none, none, none, none, none, none, none, none, none, none, none, none, none, none, none, none, none, none, none, none, none, none, none, none, none, none, none, none, none, none, none, none, none, none, none, none, none, none, none, none, none, none, none, none, none, none, none, none, none, none, none, none, none, none, none, none, none, none, none, none, none, none, none, none, none, none, none, none, none, none, none, none, none, none, none, none, none, none, none, none, none, none, none, none, none, none, none, none, none, none, none, none, none, none, none, none, none, none, none, none, none, none, none, none, none, none, none, none, none, none, none, none, none, none, none, none, none, none, none, none, none, none, none, none, none, none, none, none, none, none, none, none, none, none, none, none, none, none, none, none, none, none, none, none, none, none, none, none, none, none, none, none, none, none, none, none, none, none, none, none, none, none, none, none, none, none, none, none, none, none, none, none, none, none, none, none, none, none, none, none, none, none, none, none, none, none, none, none, none, none, none, none, none, none, none, none, none, none, none, none, none, none, none, none, none, none, none, none, some none, some none, some none, some none, some none, some none, some none, some none, some none, some none, some none, some none, some none, some (some false), none, none, none, none, none, none, none, none, none, none, none, none, none, none, none, none, none, none, none, none, none, none, none, none, none, none, none, none, none, none, none, none, none, none, none, none, none, none, none, none, none, none, none, none, none, none, none, none, none, none, none, none, none, none, none, none, none, none, none, none, none, none, none, none, none, none, none, none, none, none, none, none, none, none, none, none, none, none, none, none, none, none, none, none, none, none, none, none, none, none, none, none, none, none, none, none, none, none, none, none, none, none, none, none, none, none, none, none, none, none, none, none, none, none, none, none, none, none, none, none, none, none, none, none, none, none, none, none, none, none, none, none, none, none, none, none, none, none, none, none, none, none, none, none, none, none, none, none, none, none, none, none, none, none, none, none, none, none, none, none, none, none, none, none, none, none, none, none, none, none, none, none, none, none, none, none, none, none, none, none, none, none, none, none] (fun y _ wd => y = .bool true ∧ wd = wc) ?_ ?_
    · as_aux_lemma =>
      intro J8 K8 hJ8 hK8
      have HJ8 : Hid _ := hJ8
      clear hJ8
      by_cases h0 : s.rd.length = 0
      · as_aux_lemma =>
        have hb0 : ((s.rd.length : Int) == 0) = true := by simp [h0]
        clear hle q4 q5 q6 q7 h0 ea nr
        go_wp2_with fail
        refine Met.intro ?_
        refine HJ8.out _ _ ?_
        refine MeetC.of (.bool true) undef ?_ ⟨rfl, rfl⟩
        rfl
      · as_aux_lemma =>
        have hb0 : ((s.rd.length : Int) == 0) = false := by simp only [beq_eq_false_iff_ne, ne_eq]; omega
        obtain ⟨y, hy⟩ := has_at s.rd (k := s.rd.length - 1) (by omega)
        have hyne : y ≠ v := fun h => hm (h ▸ List.mem_of_getElem? hy)
        have hyl := hle y (List.mem_of_getElem? hy)
        have hb1 : ((y : Int) != (v : Int)) = true := by simp; omega
        have hb2 : ((y : Int) == (v : Int)) = false := by simp; omega
        obtain ⟨bc, y1, _, y2⟩ := q4.get (j := s.rd.length - 1) (v := nI y) (by simp [hy])
        have y3 : wc.cell? ⟨bc, s.rd.length - 1, none⟩ = some (.int .i64 y) := y2
        rw [y1] at cr
        have hpos : 1 ≤ s.rd.length := by omega
        clear hle q4 q5 q6 q7 hy hm y2 h0 CR y1 ea nr
        go_wp2_with fail
        refine Met.intro ?_
        refine HJ8.out _ _ ?_
        refine MeetC.of (.bool true) undef ?_ ⟨rfl, rfl⟩
        rfl
    · as_aux_lemma =>
      intro u8 x8 y8 wd hcut
      obtain ⟨rfl, hwd⟩ := hcut
      subst wd
      dsimp only [fillC, Nat.reduceAdd]
      obtain ⟨gR, cR, w5, hrun, hS5, hU5, hF5⟩ := run_appended wc (wc.alloc (.cells #[.int .i64 v] 3)) 83 83 3 1 8 slInts (by decide) vv.a s.rd.length vv.c f _ Q4.out [.int .i64 v] rfl (by intro u hu; simp at hu; subst hu; rfl) (by omega) (Upd.refl _ _)
      obtain ⟨sg', r1, r2, r3, r4, r5⟩ := Q8.out gR cR v w5 hS5 hU5 hF5
      obtain ⟨p1, p2, p3⟩ := PGH.out.srPut r1 r2 r3 (by simp) r4 r5
      have k5 : w5.cell? ⟨bS, k * 4 + 3, none⟩ = some (.slice vv.a s.rd.length vv.c) := hU5.cell CR.out q5
      have j5 := hU5.free hltS zr q5
      have SGA : Hid (sg'.a = some ⟨bS, 0, none⟩) := r2.trans ea
      have PC : Hid (Pcs w (w5.setCell ⟨bS, k * 4 + 3, none⟩ (.slice (some ⟨gR, 0, none⟩) (s.rd.length + 1) cR)) (LE w R.top hs.length cap A fC nV fV bF zs bN NS g G J0 sg' (ss.set k { s with rd := s.rd ++ [v] }) og os TX NM bO om sm T ++ [([bA], BlkIs bA 105 #[.int .i64 r.s, .int .i64 r.k])] ++ [([bE], BlkIs bE 37 #[.int .u8 x.k, .int .u64 x.x, .int .u64 x.v, .bool x.i])] ++ [([bW], BlkIs bW 114 #[.int .i64 q.s, .int .i64 q.k, .int .i64 q.e, .int .i64 q.n])])) := P9.out.put (i := 5) rfl p2 p1 (Poly.keeps _ _ _ _ _ _ _ _ _ _ _) p3 p1.nd
      have hbs3 := bs83
      have W1 : w5.cell? ⟨bS, k * 4 + 1, none⟩ = some (.int .i64 s.wr) := hU5.cell cw q5
      clear PG hS5 hU5 hF5 r1 r2 r3 r4 r5 p1 p2 p3 q4 q5 q6 q7 hle cw
      go_upto_region 70 with fail
      have W2 : (w5.setCell ⟨bS, k * 4 + 3, none⟩ (.slice (some ⟨gR, 0, none⟩) (s.rd.length + 1) cR)).cell? ⟨bS, k * 4 + 1, none⟩ = some (.int .i64 s.wr) := set_other W1 (.inr (by omega))
      obtain ⟨W3, hW3⟩ : ∃ z : World, z = w5.setCell ⟨bS, k * 4 + 3, none⟩ (.slice (some ⟨gR, 0, none⟩) (s.rd.length + 1) cR) := ⟨_, rfl⟩
      rw [← hW3] at PC W2 ⊢
      clear hW3 hrun k5 j5 W1
      have PG3 : Poly (bN + 1) bN bF A.length g G J0 sg' (ss.set k { s with rd := s.rd ++ [v] }) og os W3 := PC.out.mem (i := 5) rfl
      have hGl : G.length = A.length := E9.out.lenG
      have hwG := E9.out.wtG
      have HCC : Hid (∀ z, Calls Ybaz.prog 37 #[.pointer (some ⟨bN + 1, 2, none⟩), .int .i64 s.wr, .int .i64 v] (W3.drewN z) fun e' w' => e' = .returned (.tuple #[]) ∧ ∃ g', Gr w' (bN + 1) 2 g' (arc G s.wr v) J0 ∧ Grew (bN + 1) (W3.drewN z) w' g g') := fun z => addArc_arc (W3.drewN z) (bN + 1) 2 g G J0 (PG3.gr.keep (Upd.drewN [] W3 z) (by simp) (by simp)) s.wr v (by omega) (by omega)
      have bSn : bS ∉ (bN + 1) :: g.foot := by
        obtain ⟨bS', _, _, ea', _, _, _, _, _, _, _, q9, _⟩ := PG3.sr.row (List.getElem?_set_self hkl)
        have : bS' = bS := by
          have e1 : sg'.a = some ⟨bS, 0, none⟩ := by
            exact SGA.out
          rw [e1] at ea'; injection ea' with ea'; injection ea' with ea'; exact ea'.symm
        rw [← this]; exact fun hm' => PG3.apartS _ q9 hm'
      refine wp_region_noPanic ?_
      refine wp_lex (fun z : World => z.cell? ⟨bS, k * 4 + 1, none⟩ = some (.int .i64 s.wr)) (fun k => true) (fun k => decide (k < 8)) (by kernel_rfl) (by kernel_rfl) (by kernel_rfl) (fun _ _ _ _ _ h => h) ?_
      have HSH : Hid ((fun z : World => z.cell? ⟨bS, k * 4 + 1, none⟩ = some (.int .i64 s.wr)) W3.drew) := W2
      clear W2 PG3
      iterate 8 (
        refine LexN.take rfl HSH.out ?_ rfl ?_ ?_
        rotate_left
        · intro z hz
          go_simp
          try with_reducible rfl
        simp only [Act.put, List.setIfInBounds_toArray, List.set_cons_zero, List.set_cons_succ])
      refine LexN.step rfl rfl rfl (fun K hK => ?_)
      go_simp
      refine Calls.mono (HCC.out 1) ?_
      rintro e' w6 ⟨rfl, g', t1, t2⟩
      have PZ : Pcs w (W3.drewN 1) (LE w R.top hs.length cap A fC nV fV bF zs bN NS g G J0 sg' (ss.set k { s with rd := s.rd ++ [v] }) og os TX NM bO om sm T ++ [([bA], BlkIs bA 105 #[.int .i64 r.s, .int .i64 r.k])] ++ [([bE], BlkIs bE 37 #[.int .u8 x.k, .int .u64 x.x, .int .u64 x.v, .bool x.i])] ++ [([bW], BlkIs bW 114 #[.int .i64 q.s, .int .i64 q.k, .int .i64 q.e, .int .i64 q.n])]) := PC.out.keep (Upd.drewN [] _ _) (by simp)
      have PG4 : Poly (bN + 1) bN bF A.length g G J0 sg' (ss.set k { s with rd := s.rd ++ [v] }) og os (W3.drewN 1) := PZ.mem (i := 5) rfl
      obtain ⟨p1, p2, p3⟩ := PG4.arc t1 t2
      have PF : Pcs w w6 (LE w R.top hs.length cap A fC nV fV bF zs bN NS g' (arc G s.wr v) J0 sg' (ss.set k { s with rd := s.rd ++ [v] }) og os TX NM bO om sm T ++ [([bA], BlkIs bA 105 #[.int .i64 r.s, .int .i64 r.k])] ++ [([bE], BlkIs bE 37 #[.int .u8 x.k, .int .u64 x.x, .int .u64 x.v, .bool x.i])] ++ [([bW], BlkIs bW 114 #[.int .i64 q.s, .int .i64 q.k, .int .i64 q.e, .int .i64 q.n])]) := PZ.put (i := 5) rfl p2 p1 (Poly.keeps _ _ _ _ _ _ _ _ _ _ _) p3 p1.nd
      refine hK.out _ _ (fun _ => t2.upd.cell HSH.out bSn) ?_
      refine LexN.nil (NoPanic.normal ?_)
      refine HQ.out _ _ ?_
      refine MeetC.of undef undef ?_ ?_
      · rfl
      refine ⟨g', arc G s.wr v, sg', ss.set k { s with rd := s.rd ++ [v] }, og, os, sm, vers, T, PF.take 12, ?_, fun y => ?_, fun s9 hs9 => ?_⟩
      · exact (E9.out.rd HEN.out HN.out HK.out HI.out NO.out HSM.out SK.out HM.out (by omega)).up (by omega)
      · rw [TI9.out y, IniD.step HEN.out]
        exact ⟨.inl, fun h => h.elim id (fun h => by rw [HI.out] at h; exact absurd h.2.2.1 (by decide))⟩
      · obtain ⟨j, hj⟩ := List.getElem?_of_mem hs9
        by_cases c : k = j
        · subst c
          rw [List.getElem?_set_self hkl] at hj
          injection hj with hj
          rw [← hj]; simp
        · rw [List.getElem?_set_ne c] at hj
          exact RNH.out j s9 hj (fun h => c h.symm)
end Go.Proofs.YbulkctquGreatFmt

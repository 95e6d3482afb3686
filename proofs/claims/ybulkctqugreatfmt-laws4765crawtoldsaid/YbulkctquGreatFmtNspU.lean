/-
  newSessionPolygraph: one event of the sessions' walk.
-/
import Derived.Test.YbulkctquGreatFmtNspM
import Derived.Test.YbulkctquGreatFmtOver
import Derived.Deep.RegionWith
import Derived.BigQuiet
import Derived.Deep.DeepCutAuto
namespace Go.Proofs.YbulkctquGreatFmt
open Go.ChangeShapes Go.WideShapes Go.ChangeAt Go.RowKit Go.Ord
set_option linter.unusedVariables false
attribute [-go_sem] Go.Builtin.append_ Go.Instr.buildSlice
set_option maxHeartbeats 16000000 in
set_option maxRecDepth 100000 in
theorem ev22 {u0 u1 u2 u3 u4 u5 u6 u7 u8 u9 u10 u11 u12 u13 u14 u15 u16 u17 u18 u19 u20 u21 u22 u23 u26 u27 u28 u29 u30 u31 u32 u33 u34 u35 u36 u37 u38 u40 u42 u43 u44 u45 u46 u48 u49 u50 u51 u52 u53 u54 u55 u56 u57 u58 u59 u60 u61 u62 u63 u64 u65 u66 u67 u68 u69 u70 u71 u72 u73 u74 u75 u76 u77 u78 u79 u80 u81 u82 u83 u84 u85 u86 u87 u88 u89 u90 u91 u92 u93 u94 u95 u96 u97 u98 u99 u100 u101 u102 u103 u104 u105 u106 u107 u108 u109 u110 u111 u112 u113 u114 u115 u116 u117 u118 u119 u120 u121 u122 u123 u124 u125 u126 u127 u128 u129 u130 u131 u132 u133 u134 u135 u136 u137 u138 u139 u140 u141 u142 u143 u144 u145 u146 u147 u148 u149 u150 u151 u152 u153 u154 u155 u156 u157 u158 u159 u160 u161 u162 u163 u164 u165 u166 u167 u168 u169 u170 u171 u172 u173 u174 u175 u176 u177 u178 u179 u180 u181 u182 u183 u184 u185 u186 u187 u188 u189 u190 u191 u192 u193 u194 u195 u196 u197 u198 u199 u200 u201 u202 u203 u204 u205 u206 u207 u208 u209 u210 u211 u212 u213 u214 u215 u216 u217 u218 u219 u220 u221 u222 u223 u224 u225 u226 u227 u228 u229 u230 u231 u232 u233 u234 u235 u236 u237 u238 u239 u240 u241 u242 u243 u244 u245 u246 u247 u248 u249 u250 u251 u252 u253 u254 u255 u256 u257 u258 u259 u260 u261 u262 u263 u264 u265 u266 u267 u268 u269 u270 u271 u272 u273 u274 u275 u276 u277 u278 u279 u280 u281 u282 u283 u284 u285 u286 u287 u288 u289 u290 u291 u292 u293 u294 u295 u296 u297 u298 u299 u300 u301 u302 u303 u304 u305 u306 u307 u308 u309 u310 u311 u312 u313 u314 u315 u316 u317 u318 u319 u320 u321 u322 u323 u324 u325 u326 u327 u328 u329 u330 u331 u332 u333 u334 u335 u336 u337 u338 u339 u340 u341 u342 u343 u344 u345 u346 u347 u348 u349 u350 u351 u352 u353 u354 u355 u356 u357 u358 u359 u360 u361 u362 u363 u364 u365 u366 u367 u368 u369 u370 u371 u372 u373 u374 u375 u376 u377 u378 u379 u380 u381 u382 u383 u384 u385 u386 u387 u388 u389 u390 u391 u392 u393 u394 u395 u396 u397 u398 u399 u400 u401 u402 u403 u404 u405 u406 u407 u408 u409 u410 u411 u412 u413 u414 u415 u416 u417 u418 u419 u420 u421 u422 u423 u424 u425 u426 u427 u428 u429 u430 u431 u432 u433 u434 u435 u436 u437 u438 u439 u440 u441 u442 u443 u444 u445 u446 u447 u448 u449 u450 u451 u452 u453 u454 u455 u456 u457 u458 u459 u461 u463 u464 u465 u466 u467 u468 u469 u470 u471 u472 u473 u474 u475 u476 u477 u478 u479 u480 u481 u482 u483 u484 u485 u486 u487 u488 u489 u490 u491 u492 u493 u494 u495 u496 u497 u498 u499 u500 u501 u502 u503 u504 u505 u506 : Value} (w : World) (R : HR) (hs : List (List Tx)) (cap : Nat) (A : List Rk) (fC : List Nat) (nV : Nat) (fV : List Nat) (bF : Nat) (zs : List Nat) (bN : Nat) (NS : List (List UInt8)) (J0 : List Bool) (sg : SG) (ss : List Sr) (og : OG) (os : List Ob) (TX : List (Nat × Nat)) (NM : Nat × Nat → Option Nat) (bO : Nat) (om sm : Nat → Option Nat) (T : List Nat) (vars vers : List Nat) (F : Nat → Option Wr) (c0 cE : Nat) (G0 : List (List Nat)) (E : EI hs F A zs NM A.length 0 om sm vars vers os ss G0 c0) (H : HistE w R hs) (O : HOk hs) (W : WF hs F) (hA : A = rksAll 0 hs) (h12 : A.length ≤ 12) (hp : zs.Perm (List.range A.length)) (nmi : NMI A zs A.length NM) (hvb : ∀ s k e x, At hs s k e x → x.v < 900 ∧ x.x < 900)
    (g : GG) (G : List (List Nat)) (fa : List Int) (wait : Nat → Option Nat) (bA bM bT v s k e : Nat) (l : List Tx) (t : Tx) (x : Ev) (o2 : Value) (hl : hs[s]? = some l) (ht : l[k]? = some t) (hx : t.evs[e]? = some x) (hc : t.com = true) (hv : v < A.length) (hav : (ats A zs)[v]? = some (s, k)) (wr : World)
    (hP : Pcs w wr (LE w R.top hs.length cap A fC nV fV bF zs bN NS g G J0 sg ss og os TX NM bO om sm T ++ [([bA], IntsAt bA ss.length fa)] ++ [([bM], fun z => MapAt z (ik .i64) bM (fun m => (wait m).map (ik .i64)))] ++ [([bT], BlkIs bT 39 #[o2, .bool t.com])])) (hFA : FA hs F A zs vars vers ss s k e fa wait) (J K' : Act → World → Prop) (Q' : Exit → Act → World → Prop)
    (hJ : ∀ a' w', MeetC [none, none, none, none, none, none, none, none, none, none, none, none, none, none, none, none, none, none, none, none, none, none, none, none, none, none, none, none, none, none, none, none, none, none, none, none, none, none, none, none, none, none, none, none, none, none, none, none, none, some none, some none, some none, some none, some none, some none, none, none, none, none, none, none, none, none, none, none, none, none, none, none, none, none, none, none, none, none, none, none, none, none, none, none, none, none, none, none, none, none, none, none, none, none, none, none, none, none, none, none, none, none, none, none, none, none, none, none, none, none, none, none, none, none, none, none, none, none, none, none, none, none, none, none, none, none, none, none, none, none, none, none, none, none, none, none, none, none, none, none, none, none, none, none, none, none, none, none, none, none, none, none, none, none, none, none, none, none, none, none, none, none, none, none, none, none, none, none, none, none, none, none, none, none, none, none, none, none, none, none, none, none, none, none, none, none, none, none, none, none, none, none, none, none, none, none, none, none, none, none, none, none, none, none, none, none, none, none, none, none, none, none, none, none, none, none, none, none, none, none, none, none, none, none, none, none, none, none, none, none, none, none, none, none, none, none, none, none, none, none, none, none, none, none, none, none, none, none, none, none, none, none, none, none, none, none, none, none, none, none, none, none, none, none, none, none, none, none, none, none, none, none, none, none, none, none, none, none, none, none, none, none, none, none, none, none, none, none, none, none, none, none, none, none, none, none, none, none, none, none, none, none, none, none, none, none, none, none, none, none, none, none, none, none, none, none, none, none, none, none, none, none, none, none, none, none, none, none, none, none, none, none, none, none, none, none, none, none, none, none, none, none, none, none, none, none, none, none, none, none, none, none, none, none, none, none, none, none, none, none, none, none, none, none, none, none, none, none, none, none, none, none, none, none, none, none, none, none, none, none, none, none, none, none, none, none, none, none, none, none, none, none, none, none, none, none, none, none, none, none, none, none, none, none, none, none, none, none, none, none, none, none, none, none, none, none, none, none, none, none, none, none, none, none, none, none, none, none, none, none, none, none, none, none, none, none, none, none, none, none, none, none, none, none, none, none, none, none, none, none, none, none, none, none, none, none, none, none, none, none, none, none, none, none, none, none, none, some none, some none, some none, some none, some none, some none, some none, some none, some none, some none, some none, some none, some none, some none, some none, some none, some none, some none, some none, some none, some none, some none, some none, some none, some none, some none, some none, some none, some none, some none, some none, some none, some none, none, none, none, none, none, none, none, none, none, none] [u0, u1, u2, u3, u4, u5, u6, u7, u8, u9, u10, u11, u12, u13, u14, u15, u16, u17, u18, u19, u20, u21, u22, u23, .map (some bO), .map (some (bO + 1)), u26, u27, u28, u29, u30, u31, u32, u33, u34, u35, u36, u37, u38, .slice (some ⟨bA, 0, none⟩) ss.length ss.length, u40, .map (some bM), u42, u43, u44, u45, u46, .int .i64 v, u48, u49, u50, u51, u52, u53, u54, u55, u56, u57, u58, u59, u60, u61, u62, u63, u64, u65, u66, u67, u68, u69, u70, u71, u72, u73, u74, u75, u76, u77, u78, u79, u80, u81, u82, u83, u84, u85, u86, u87, u88, u89, u90, u91, u92, u93, u94, u95, u96, u97, u98, u99, u100, u101, u102, u103, u104, u105, u106, u107, u108, u109, u110, u111, u112, u113, u114, u115, u116, u117, u118, u119, u120, u121, u122, u123, u124, u125, u126, u127, u128, u129, u130, u131, u132, u133, u134, u135, u136, u137, u138, u139, u140, u141, u142, u143, u144, u145, u146, u147, u148, u149, u150, u151, u152, u153, u154, u155, u156, u157, u158, u159, u160, u161, u162, u163, u164, u165, u166, u167, u168, u169, u170, u171, u172, u173, u174, u175, u176, u177, u178, u179, u180, u181, u182, u183, u184, u185, u186, u187, u188, u189, u190, u191, u192, u193, u194, u195, u196, u197, u198, u199, u200, u201, u202, u203, u204, u205, u206, u207, u208, u209, u210, u211, u212, u213, u214, u215, u216, u217, u218, u219, u220, u221, u222, u223, u224, u225, u226, u227, u228, u229, u230, u231, u232, u233, u234, u235, u236, u237, u238, u239, u240, u241, u242, u243, u244, u245, u246, u247, u248, u249, u250, u251, u252, u253, u254, u255, u256, u257, u258, u259, u260, u261, u262, u263, u264, u265, u266, u267, u268, u269, u270, u271, u272, u273, u274, u275, u276, u277, u278, u279, u280, u281, u282, u283, u284, u285, u286, u287, u288, u289, u290, u291, u292, u293, u294, u295, u296, u297, u298, u299, u300, u301, u302, u303, u304, u305, u306, u307, u308, u309, u310, u311, u312, u313, u314, u315, u316, u317, u318, u319, u320, u321, u322, u323, u324, u325, u326, u327, u328, u329, u330, u331, u332, u333, u334, u335, u336, u337, u338, u339, u340, u341, u342, u343, u344, u345, u346, u347, u348, u349, u350, u351, u352, u353, u354, u355, u356, u357, u358, u359, u360, u361, u362, u363, u364, u365, u366, u367, u368, u369, u370, u371, u372, u373, u374, u375, u376, u377, u378, u379, u380, u381, u382, u383, u384, u385, u386, u387, u388, u389, u390, u391, u392, u393, u394, u395, u396, u397, u398, u399, u400, u401, u402, u403, u404, u405, u406, u407, u408, u409, u410, u411, u412, u413, u414, u415, u416, u417, u418, u419, u420, u421, u422, u423, u424, u425, u426, u427, u428, u429, u430, u431, u432, u433, u434, u435, u436, u437, u438, u439, u440, u441, u442, u443, u444, u445, u446, u447, u448, u449, u450, u451, u452, u453, u454, u455, u456, u457, u458, u459, .slice (some ⟨R.evs s k, 0, none⟩) t.evs.length cE, u461, .int .i64 e, u463, u464, u465, u466, u467, u468, u469, u470, u471, u472, u473, u474, u475, u476, u477, u478, u479, u480, u481, u482, u483, u484, u485, u486, u487, u488, u489, u490, u491, u492, u493, u494, u495, u496, u497, u498, u499, u500, u501, u502, u503, u504, u505, u506] [] (fun _ _ wc => ∃ (fa : List Int) (wait : Nat → Option Nat), Pcs w wc (LE w R.top hs.length cap A fC nV fV bF zs bN NS g G J0 sg ss og os TX NM bO om sm T ++ [([bA], IntsAt bA ss.length fa)] ++ [([bM], fun z => MapAt z (ik .i64) bM (fun m => (wait m).map (ik .i64)))] ++ [([bT], BlkIs bT 39 #[o2, .bool t.com])]) ∧ FA hs F A zs vars vers ss s k (e + 1) fa wait) a' w' → J a' w') (hK : ∀ a' w', Met J a' w' → K' a' w') : c22.wp Ybaz.prog (Exit.then K' Q') ⟨[u0, u1, u2, u3, u4, u5, u6, u7, u8, u9, u10, u11, u12, u13, u14, u15, u16, u17, u18, u19, u20, u21, u22, u23, .map (some bO), .map (some (bO + 1)), u26, u27, u28, u29, u30, u31, u32, u33, u34, u35, u36, u37, u38, .slice (some ⟨bA, 0, none⟩) ss.length ss.length, u40, .map (some bM), u42, u43, u44, u45, u46, .int .i64 v, u48, u49, u50, u51, u52, u53, u54, u55, u56, u57, u58, u59, u60, u61, u62, u63, u64, u65, u66, u67, u68, u69, u70, u71, u72, u73, u74, u75, u76, u77, u78, u79, u80, u81, u82, u83, u84, u85, u86, u87, u88, u89, u90, u91, u92, u93, u94, u95, u96, u97, u98, u99, u100, u101, u102, u103, u104, u105, u106, u107, u108, u109, u110, u111, u112, u113, u114, u115, u116, u117, u118, u119, u120, u121, u122, u123, u124, u125, u126, u127, u128, u129, u130, u131, u132, u133, u134, u135, u136, u137, u138, u139, u140, u141, u142, u143, u144, u145, u146, u147, u148, u149, u150, u151, u152, u153, u154, u155, u156, u157, u158, u159, u160, u161, u162, u163, u164, u165, u166, u167, u168, u169, u170, u171, u172, u173, u174, u175, u176, u177, u178, u179, u180, u181, u182, u183, u184, u185, u186, u187, u188, u189, u190, u191, u192, u193, u194, u195, u196, u197, u198, u199, u200, u201, u202, u203, u204, u205, u206, u207, u208, u209, u210, u211, u212, u213, u214, u215, u216, u217, u218, u219, u220, u221, u222, u223, u224, u225, u226, u227, u228, u229, u230, u231, u232, u233, u234, u235, u236, u237, u238, u239, u240, u241, u242, u243, u244, u245, u246, u247, u248, u249, u250, u251, u252, u253, u254, u255, u256, u257, u258, u259, u260, u261, u262, u263, u264, u265, u266, u267, u268, u269, u270, u271, u272, u273, u274, u275, u276, u277, u278, u279, u280, u281, u282, u283, u284, u285, u286, u287, u288, u289, u290, u291, u292, u293, u294, u295, u296, u297, u298, u299, u300, u301, u302, u303, u304, u305, u306, u307, u308, u309, u310, u311, u312, u313, u314, u315, u316, u317, u318, u319, u320, u321, u322, u323, u324, u325, u326, u327, u328, u329, u330, u331, u332, u333, u334, u335, u336, u337, u338, u339, u340, u341, u342, u343, u344, u345, u346, u347, u348, u349, u350, u351, u352, u353, u354, u355, u356, u357, u358, u359, u360, u361, u362, u363, u364, u365, u366, u367, u368, u369, u370, u371, u372, u373, u374, u375, u376, u377, u378, u379, u380, u381, u382, u383, u384, u385, u386, u387, u388, u389, u390, u391, u392, u393, u394, u395, u396, u397, u398, u399, u400, u401, u402, u403, u404, u405, u406, u407, u408, u409, u410, u411, u412, u413, u414, u415, u416, u417, u418, u419, u420, u421, u422, u423, u424, u425, u426, u427, u428, u429, u430, u431, u432, u433, u434, u435, u436, u437, u438, u439, u440, u441, u442, u443, u444, u445, u446, u447, u448, u449, u450, u451, u452, u453, u454, u455, u456, u457, u458, u459, .slice (some ⟨R.evs s k, 0, none⟩) t.evs.length cE, u461, .int .i64 e, u463, u464, u465, u466, u467, u468, u469, u470, u471, u472, u473, u474, u475, u476, u477, u478, u479, u480, u481, u482, u483, u484, u485, u486, u487, u488, u489, u490, u491, u492, u493, u494, u495, u496, u497, u498, u499, u500, u501, u502, u503, u504, u505, u506].toArray, []⟩ wr := by
  have P9 : Hid _ := hP
  have EE : Hid _ := E
  have FH : Hid _ := hFA
  have HJ : Hid _ := hJ
  have H' : Hid _ := H
  have O' : Hid _ := O
  have WW : Hid _ := W
  have NI : Hid _ := nmi
  have L3 : Hid (hs[s]? = some l) := hl
  have T3 : Hid (l[k]? = some t) := ht
  have AV : Hid ((ats A zs)[v]? = some (s, k)) := hav
  have HAT : Hid (At hs s k e x) := ⟨l, t, hl, ht, hx⟩
  have hfs := E.fewS hvb
  have hfo := E.fewO
  have hte := O.small3 l (List.mem_of_getElem? hl) t (List.mem_of_getElem? ht)
  have hlte : e < t.evs.length := (List.getElem?_eq_some_iff.mp hx).1
  have HW := H.below hP.bel
  have a0 := HW.ev s l k t e x 0 _ hl ht hx rfl
  have a1 := HW.ev s l k t e x 1 _ hl ht hx rfl
  have a2 := HW.ev s l k t e x 2 _ hl ht hx rfl
  have a3 := HW.ev s l k t e x 3 _ hl ht hx rfl
  simp only [Nat.add_zero] at a0
  have KN : Hid (∃ n, om x.x = some n) := E.known v e x (.inl hv) ⟨(s, k), hav, ⟨l, t, hl, ht, hx⟩⟩
  obtain ⟨bE, hbE⟩ : ∃ z, z = wr.heap.size := ⟨_, rfl⟩
  have PA : Hid (Pcs w (wr.alloc (.cells #[.int .u8 x.k, .int .u64 x.x, .int .u64 x.v, .bool x.i] 37)) (LE w R.top hs.length cap A fC nV fV bF zs bN NS g G J0 sg ss og os TX NM bO om sm T ++ [([bA], IntsAt bA ss.length fa)] ++ [([bM], fun z => MapAt z (ik .i64) bM (fun m => (wait m).map (ik .i64)))] ++ [([bT], BlkIs bT 39 #[o2, .bool t.com])] ++ [([bE], BlkIs bE 37 #[.int .u8 x.k, .int .u64 x.x, .int .u64 x.v, .bool x.i])])) := by
    rw [hbE]
    exact hP.add (Upd.alloc [] _ _) (by simp) [wr.heap.size] _ (Blk.new _ _ _) (BlkIs.keeps _ _ _) (by simp) (by simp)
  have hkd := O.kind _ _ _ _ HAT.out
  clear hP E hFA hJ H O W nmi hl ht hx hav hvb HW P9 hA hp hc
  conv => arg 2; whnf
  go_upto_region 105 with fail
  obtain ⟨W1, hW1⟩ : ∃ z : World, z = wr.alloc (.cells #[.int .u8 x.k, .int .u64 x.x, .int .u64 x.v, .bool x.i] 37) := ⟨_, rfl⟩
  rw [← hW1] at PA ⊢
  rw [← hbE]
  clear hW1 hbE a0 a1 a2 a3
  have bE7 : Blk W1 bE 37 #[.int .u8 x.k, .int .u64 x.x, .int .u64 x.v, .bool x.i] := PA.out.mem (i := 14) rfl
  have e0 : W1.cell? ⟨bE, 0, none⟩ = some (.int .u8 x.k) := bE7.cell 0
  have e1 : W1.cell? ⟨bE, 1, none⟩ = some (.int .u64 x.x) := bE7.cell 1
  clear bE7
  rcases hkd with hk | hk
  · as_aux_lemma =>
    rw [hk] at e0
    clear hk
    go_wp2_with fail
    refine Met.intro ?_
    refine HJ.out _ _ ?_
    refine MeetC.of undef undef ?_ ?_
    · rfl
    exact ⟨fa, wait, PA.out.take 14, FH.out.up⟩
  · rw [hk] at e0
    have HK : Hid (x.k = 1) := hk
    clear hk
    obtain ⟨n, hn⟩ := KN.out
    have HN : Hid (om x.x = some n) := hn
    clear hn KN
    obtain ⟨ov, hov⟩ : ∃ z : Value, z = ((wait n).map (ik .i64)).getD (.int .i64 0) := ⟨_, rfl⟩
    obtain ⟨ob, hob⟩ : ∃ z : Bool, z = ((wait n).map (ik .i64)).isSome := ⟨_, rfl⟩
    have HOV : Hid (ov = ((wait n).map (ik .i64)).getD (.int .i64 0)) := hov
    have HOB : Hid (ob = ((wait n).map (ik .i64)).isSome) := hob
    clear hov hob
    go_upto_if 479 with (first | (at_lookup; refine wpList_look1 rfl (.tmp 469) (.tmp 471) 136 rfl Ybaz.underlying136 key35 bO _ (PA.out.mem (i := 8) rfl) x.x zero3 rfl rfl (.int .i64 n) (by simp only [HN.out]; rfl) ?_) | (at_lookup; refine wpList_look2 rfl (.tmp 474) (.tmp 475) 145 rfl Ybaz.underlying145 (intKeys Ybaz.underlying3) bM _ (PA.out.mem (i := 12) rfl) n zero3 rfl rfl ov ob HOV.out.symm HOB.out.symm ?_))
    clear e0 e1
    refine wp_cutC [none, none, none, none, none, none, none, none, none, none, none, none, none, none, none, none, none, none, none, none, none, none, none, none, none, none, none, none, none, none, none, none, none, none, none, none, none, none, none, none, none, none, none, none, none, none, none, none, none, none, none, none, none, none, none, none, none, none, none, none, none, none, none, none, none, none, none, none, none, none, none, none, none, none, none, none, none, none, none, none, none, none, none, none, none, none, none, none, none, none, none, none, none, none, none, none, none, none, none, none, none, none, none, none, none, none, none, none, none, none, none, none, none, none, none, none, none, none, none, none, none, none, none, none, none, none, none, none, none, none, none, none, none, none, none, none, none, none, none, none, none, none, none, none, none, none, none, none, none, none, none, none, none, none, none, none, none, none, none, none, none, none, none, none, none, none, none, none, none, none, none, none, none, none, none, none, none, none, none, none, none, none, none, none, none, none, none, none, none, none, none, none, none, none, none, none, none, none, none, none, none, none, none, none, none, none, none, none, none, none, none, none, none, none, none, none, none, none, none, none, none, none, none, none, none, none, none, none, none, none, none, none, none, none, none, none, none, none, none, none, none, none, none, none, none, none, none, none, none, none, none, none, none, none, none, none, none, none, none, none, none, none, none, none, none, none, none, none, none, none, none, none, none, none, none, none, none, none, none, none, none, none, none, none, none, none, none, none, none, none, none, none, none, none, none, none, none, none, none, none, none, none, none, none, none, none, none, none, none, none, none, none, none, none, none, none, none, none, none, none, none, none, none, none, none, none, none, none, none, none, none, none, none, none, none, none, none, none, none, none, none, none, none, none, none, none, none, none, none, none, none, none, none, none, none, none, none, none, none, none, none, none, none, none, none, none, none, none, none, none, none, none, none, none, none, none, none, none, none, none, none, none, none, none, none, none, none, none, none, none, none, none, none, none, none, none, none, none, none, none, none, none, none, none, none, none, none, none, none, none, none, none, none, none, none, none, none, none, none, none, none, none, none, none, none, none, none, none, none, none, none, none, none, none, none, none, none, none, none, none, none, none, none, none, none, none, none, none, none, none, none, none, none, none, none, none, none, none, none, none, none, none, none, none, none, none, none, none, none, none, none, none, none, none, none, none, none, none, none, none, some none, some none, some none, some none, some none, some none, none, none, none, none, none, none, none, none, none, none, none, none, none, none, none, none, none, none, none, none, none] (fun _ _ wc => ∃ (fa : List Int) (wait : Nat → Option Nat), Pcs w wc (LE w R.top hs.length cap A fC nV fV bF zs bN NS g G J0 sg ss og os TX NM bO om sm T ++ [([bA], IntsAt bA ss.length fa)] ++ [([bM], fun z => MapAt z (ik .i64) bM (fun m => (wait m).map (ik .i64)))] ++ [([bT], BlkIs bT 39 #[o2, .bool t.com])] ++ [([bE], BlkIs bE 37 #[.int .u8 x.k, .int .u64 x.x, .int .u64 x.v, .bool x.i])]) ∧ FA hs F A zs vars vers ss s k e fa wait) ?_ ?_
    · as_aux_lemma =>
      intro J8 K8 hJ8 hK8
      have HJ8 : Hid _ := hJ8
      clear hJ8
      rcases hw : wait n with _ | j
      · as_aux_lemma =>
        have eb : ob = false := by rw [HOB.out, hw]; rfl
        subst eb
        go_wp2_with fail
        refine Met.intro ?_
        refine HJ8.out _ _ ?_
        refine MeetC.of undef undef ?_ ?_
        · rfl
        exact ⟨fa, wait, PA.out, FH.out⟩
      · as_aux_lemma =>
        have eb : ob = true := by rw [HOB.out, hw]; rfl
        have ev : ov = .int .i64 j := by rw [HOV.out, hw]; rfl
        subst eb
        subst ev
        obtain ⟨hjl, hF2⟩ := FH.out.hit O'.out WW.out EE.out NI.out hv AV.out HAT.out HK.out HN.out hw
        have FH2 : Hid _ := hF2
        clear hF2 hw
        have IA : IntsAt bA ss.length fa W1 := PA.out.mem (i := 11) rfl
        obtain ⟨i0, hi0⟩ := has_at fa (k := j) (by rw [FH.out.len]; exact hjl)
        obtain ⟨cm, zm⟩ := IA.get hi0
        have hjn : j < 1000 := by omega
        have PB : Hid (Pcs w (W1.setCell ⟨bA, j, none⟩ (.int .i64 v)) (LE w R.top hs.length cap A fC nV fV bF zs bN NS g G J0 sg ss og os TX NM bO om sm T ++ [([bA], IntsAt bA ss.length (fa.set j (v : Int)))] ++ [([bM], fun z => MapAt z (ik .i64) bM (fun m => (wait m).map (ik .i64)))] ++ [([bT], BlkIs bT 39 #[o2, .bool t.com])] ++ [([bE], BlkIs bE 37 #[.int .u8 x.k, .int .u64 x.x, .int .u64 x.v, .bool x.i])])) := PA.out.put (i := 11) rfl (Upd.store _ _ _ _) (IA.set j v) (IntsAt.keeps _ _ _) (fun y hy => ⟨.inl hy, by simp at hy; subst hy; have := World.block_lt_of_cell? _ _ cm; simpa [World.setCell] using this⟩) (by simp)
        clear IA hi0
        go_upto_region 110 with fail
        obtain ⟨W2, hW2⟩ : ∃ z : World, z = W1.setCell ⟨bA, j, none⟩ (.int .i64 v) := ⟨_, rfl⟩
        rw [← hW2] at PB ⊢
        clear hW2 cm zm
        go_wp2_with (refine wpList_del rfl (.tmp 484) (.tmp 485) 145 3 rfl Ybaz.underlying145 (intKeys Ybaz.underlying3) bM _ (PB.out.mem (i := 12) rfl) n rfl rfl ?_; intro w3 m3 u3; have M3 : Hid _ := m3; have U3 : Hid _ := u3; clear m3 u3)
        refine Met.intro ?_
        refine HJ8.out _ _ ?_
        refine MeetC.of undef undef ?_ ?_
        · rfl
        refine ⟨fa.set j (v : Int), (fun m => if m = n then none else wait m), ?_, FH2.out⟩
        exact PB.out.put (i := 12) rfl U3.out (P' := fun z => MapAt z (ik .i64) bM (fun m => ((fun m => if m = n then none else wait m) m).map (ik .i64))) (M3.out.congr (fun m => by by_cases c : m = n <;> simp [c])) (mapKeeps _ _ _) (fun k hk => ⟨.inl hk, by simp at hk; subst hk; exact M3.out.lt⟩) (by simp)
    · as_aux_lemma =>
      intro u8 x8 y8 wc hcut
      obtain ⟨fa, wait, h1, h2⟩ := hcut
      clear PA FH HOV HOB
      have P9 : Hid _ := h1
      have FH : Hid _ := h2
      clear h1 h2
      dsimp only [fillC, Nat.reduceAdd]
      have bE7 : Blk wc bE 37 #[.int .u8 x.k, .int .u64 x.x, .int .u64 x.v, .bool x.i] := P9.out.mem (i := 14) rfl
      have e2 : wc.cell? ⟨bE, 2, none⟩ = some (.int .u64 x.v) := bE7.cell 2
      clear bE7
      rcases hsm : sm x.v with _ | j
      · as_aux_lemma =>
        have HS : Hid (sm x.v = none) := hsm
        clear hsm
        go_wp2_with (at_lookup; refine wpList_look2 rfl (.tmp 487) (.tmp 489) 136 rfl Ybaz.underlying136 key35 (bO + 1) _ (P9.out.mem (i := 9) rfl) x.v zero3 rfl rfl (.int .i64 0) false (by simp only [HS.out]; rfl) (by simp only [HS.out]; rfl) ?_)
        refine Met.intro ?_
        refine HJ.out _ _ ?_
        refine MeetC.of undef undef ?_ ?_
        · rfl
        exact ⟨fa, wait, P9.out.take 14, FH.out.up⟩
      · as_aux_lemma =>
        have HS : Hid (sm x.v = some j) := hsm
        clear hsm
        go_wp2_with (first | (at_lookup; refine wpList_look2 rfl (.tmp 487) (.tmp 489) 136 rfl Ybaz.underlying136 key35 (bO + 1) _ (P9.out.mem (i := 9) rfl) x.v zero3 rfl rfl (.int .i64 j) true (by simp only [HS.out]; rfl) (by simp only [HS.out]; rfl) ?_) | (at_mapUpdate; refine wpList_put rfl (.tmp 494) (.tmp 495) (.tmp 496) 145 rfl Ybaz.underlying145 (intKeys Ybaz.underlying3) bM _ (P9.out.mem (i := 12) rfl) n (.int .i64 j) rfl rfl rfl ?_; intro w3 m3 u3; have M3 : Hid _ := m3; have U3 : Hid _ := u3; clear m3 u3))
        refine Met.intro ?_
        refine HJ.out _ _ ?_
        refine MeetC.of undef undef ?_ ?_
        · rfl
        refine ⟨fa, (fun m => if m = n then some j else wait m), ?_, FH.out.put WW.out EE.out HAT.out HK.out HN.out HS.out⟩
        exact (P9.out.put (i := 12) rfl U3.out (P' := fun z => MapAt z (ik .i64) bM (fun m => ((fun m => if m = n then some j else wait m) m).map (ik .i64))) (M3.out.congr (fun m => by by_cases c : m = n <;> simp [c, ik])) (mapKeeps _ _ _) (fun k hk => ⟨.inl hk, by simp at hk; subst hk; exact M3.out.lt⟩) (by simp)).take 14
end Go.Proofs.YbulkctquGreatFmt

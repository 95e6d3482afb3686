/-
  newSessionPolygraph: one transaction of the sessions' walk.
-/
import Derived.Test.YbulkctquGreatFmtNspM
import Derived.Test.YbulkctquGreatFmtNspU
import Derived.Deep.RegionWith
import Derived.BigQuiet
import Derived.Deep.DeepCutAuto
namespace Go.Proofs.YbulkctquGreatFmt
open Go.ChangeShapes Go.WideShapes Go.ChangeAt Go.RowKit Go.Ord
set_option linter.unusedVariables false
attribute [-go_sem] Go.Builtin.append_ Go.Instr.buildSlice
set_option maxHeartbeats 16000000 in
set_option maxRecDepth 100000 in
theorem txn20 {u0 u1 u2 u3 u4 u5 u6 u7 u8 u9 u10 u11 u12 u13 u14 u15 u16 u17 u19 u21 u22 u23 u26 u27 u28 u29 u30 u31 u32 u33 u34 u35 u36 u37 u38 u40 u43 u45 u46 u47 u48 u49 u50 u51 u52 u53 u54 u55 u56 u57 u58 u59 u60 u61 u62 u63 u64 u65 u66 u67 u68 u69 u70 u71 u72 u73 u74 u75 u76 u77 u78 u79 u80 u81 u82 u83 u84 u85 u86 u87 u88 u89 u90 u91 u92 u93 u94 u95 u96 u97 u98 u99 u100 u101 u102 u103 u104 u105 u106 u107 u108 u109 u110 u111 u112 u113 u114 u115 u116 u117 u118 u119 u120 u121 u122 u123 u124 u125 u126 u127 u128 u129 u130 u131 u132 u133 u134 u135 u136 u137 u138 u139 u140 u141 u142 u143 u144 u145 u146 u147 u148 u149 u150 u151 u152 u153 u154 u155 u156 u157 u158 u159 u160 u161 u162 u163 u164 u165 u166 u167 u168 u169 u170 u171 u172 u173 u174 u175 u176 u177 u178 u179 u180 u181 u182 u183 u184 u185 u186 u187 u188 u189 u190 u191 u192 u193 u194 u195 u196 u197 u198 u199 u200 u201 u202 u203 u204 u205 u206 u207 u208 u209 u210 u211 u212 u213 u214 u215 u216 u217 u218 u219 u220 u221 u222 u223 u224 u225 u226 u227 u228 u229 u230 u231 u232 u233 u234 u235 u236 u237 u238 u239 u240 u241 u242 u243 u244 u245 u246 u247 u248 u249 u250 u251 u252 u253 u254 u255 u256 u257 u258 u259 u260 u261 u262 u263 u264 u265 u266 u267 u268 u269 u270 u271 u272 u273 u274 u275 u276 u277 u278 u279 u280 u281 u282 u283 u284 u285 u286 u287 u288 u289 u290 u291 u292 u293 u294 u295 u296 u297 u298 u299 u300 u301 u302 u303 u304 u305 u306 u307 u308 u309 u310 u311 u312 u313 u314 u315 u316 u317 u318 u319 u320 u321 u322 u323 u324 u325 u326 u327 u328 u329 u330 u331 u332 u333 u334 u335 u336 u337 u338 u339 u340 u341 u342 u343 u344 u345 u346 u347 u348 u349 u350 u351 u352 u353 u354 u355 u356 u357 u358 u359 u360 u361 u362 u363 u364 u365 u366 u367 u368 u369 u370 u371 u372 u373 u374 u375 u376 u377 u378 u379 u380 u381 u382 u383 u384 u385 u386 u387 u388 u389 u390 u391 u392 u393 u394 u395 u396 u397 u398 u399 u400 u401 u402 u403 u404 u405 u406 u407 u408 u409 u410 u411 u412 u413 u414 u415 u416 u417 u418 u419 u420 u421 u422 u423 u424 u425 u426 u427 u428 u429 u430 u431 u432 u433 u434 u436 u438 u439 u440 u441 u442 u443 u444 u445 u446 u447 u448 u449 u450 u451 u452 u453 u454 u455 u456 u457 u458 u459 u460 u461 u462 u463 u464 u465 u466 u467 u468 u469 u470 u471 u472 u473 u474 u475 u476 u477 u478 u479 u480 u481 u482 u483 u484 u485 u486 u487 u488 u489 u490 u491 u492 u493 u494 u495 u496 u497 u498 u499 u500 u501 u502 u503 u504 u505 u506 : Value} (w : World) (R : HR) (hs : List (List Tx)) (cap : Nat) (A : List Rk) (fC : List Nat) (nV : Nat) (fV : List Nat) (bF : Nat) (zs : List Nat) (bN : Nat) (NS : List (List UInt8)) (J0 : List Bool) (sg : SG) (ss : List Sr) (og : OG) (os : List Ob) (TX : List (Nat × Nat)) (NM : Nat × Nat → Option Nat) (bO : Nat) (om sm : Nat → Option Nat) (T : List Nat) (vars vers : List Nat) (F : Nat → Option Wr) (c0 cS : Nat) (G0 : List (List Nat)) (E : EI hs F A zs NM A.length 0 om sm vars vers os ss G0 c0) (H : HistE w R hs) (O : HOk hs) (W : WF hs F) (hA : A = rksAll 0 hs) (h12 : A.length ≤ 12) (hp : zs.Perm (List.range A.length)) (nmi : NMI A zs A.length NM) (hvb : ∀ s k e x, At hs s k e x → x.v < 900 ∧ x.x < 900) (hc0 : c0 ≤ 100000)
    (g : GG) (G : List (List Nat)) (fa : List Int) (wait : Nat → Option Nat) (bf : Int) (bA bM s k : Nat) (l : List Tx) (t : Tx) (hl : hs[s]? = some l) (ht : l[k]? = some t) (wr : World)
    (hP : Pcs w wr (LE w R.top hs.length cap A fC nV fV bF zs bN NS g G J0 sg ss og os TX NM bO om sm T ++ [([bA], IntsAt bA ss.length fa)] ++ [([bM], fun z => MapAt z (ik .i64) bM (fun m => (wait m).map (ik .i64)))])) (hFA : FA hs F A zs vars vers ss s k 0 fa wait) (hGA : GA hs A zs G0 s k bf G) (J K' : Act → World → Prop) (Q' : Exit → Act → World → Prop)
    (hJ : ∀ a' w', MeetC [none, none, none, none, none, none, none, none, none, none, none, none, none, none, none, none, none, none, none, none, none, none, none, none, none, none, none, none, none, none, none, none, none, none, none, none, none, none, none, none, none, none, none, none, some (some true), some none, some none, some none, none, some none, some none, some none, some none, some none, some none, none, none, none, none, none, none, none, none, none, none, none, none, none, none, none, none, none, none, none, none, none, none, none, none, none, none, none, none, none, none, none, none, none, none, none, none, none, none, none, none, none, none, none, none, none, none, none, none, none, none, none, none, none, none, none, none, none, none, none, none, none, none, none, none, none, none, none, none, none, none, none, none, none, none, none, none, none, none, none, none, none, none, none, none, none, none, none, none, none, none, none, none, none, none, none, none, none, none, none, none, none, none, none, none, none, none, none, none, none, none, none, none, none, none, none, none, none, none, none, none, none, none, none, none, none, none, none, none, none, none, none, none, none, none, none, none, none, none, none, none, none, none, none, none, none, none, none, none, none, none, none, none, none, none, none, none, none, none, none, none, none, none, none, none, none, none, none, none, none, none, none, none, none, none, none, none, none, none, none, none, none, none, none, none, none, none, none, none, none, none, none, none, none, none, none, none, none, none, none, none, none, none, none, none, none, none, none, none, none, none, none, none, none, none, none, none, none, none, none, none, none, none, none, none, none, none, none, none, none, none, none, none, none, none, none, none, none, none, none, none, none, none, none, none, none, none, none, none, none, none, none, none, none, none, none, none, none, none, none, none, none, none, none, none, none, none, none, none, none, none, none, none, none, none, none, none, none, none, none, none, none, none, none, none, none, none, none, none, none, none, none, none, none, none, none, none, none, none, none, none, none, none, none, none, none, none, none, none, none, none, none, none, none, none, none, none, none, none, none, none, none, none, none, none, none, none, none, none, none, none, none, none, none, none, none, none, none, none, none, none, none, none, none, none, none, none, none, none, none, none, none, none, none, none, none, none, none, none, none, none, none, none, none, none, none, none, none, none, none, none, none, none, none, none, none, none, none, none, none, none, none, none, none, none, some none, some none, some none, some none, some none, some none, some none, some none, some none, some none, some none, some none, some none, some none, some none, some none, some none, some none, some none, some none, some none, some none, some none, some none, some none, some none, some none, some none, some none, some none, some none, some none, some none, some none, some none, some none, some none, some none, some none, some none, some none, some none, some none, some none, some none, some none, some none, some none, some none, some none, some none, some none, some none, some none, some none, some none, some none, some none, some none, none, none, none, none, none, none, none, none, none] [u0, u1, u2, u3, u4, u5, u6, u7, u8, u9, u10, u11, u12, u13, u14, u15, u16, u17, .pointer (some ⟨bN + 1, 0, none⟩), u19, .map (some (bN + 3)), u21, u22, u23, .map (some bO), .map (some (bO + 1)), u26, u27, u28, u29, u30, u31, u32, u33, u34, u35, u36, u37, u38, .slice (some ⟨bA, 0, none⟩) ss.length ss.length, u40, .map (some bM), .int .i64 s, u43, .int .i64 bf, u45, u46, u47, u48, u49, u50, u51, u52, u53, u54, u55, u56, u57, u58, u59, u60, u61, u62, u63, u64, u65, u66, u67, u68, u69, u70, u71, u72, u73, u74, u75, u76, u77, u78, u79, u80, u81, u82, u83, u84, u85, u86, u87, u88, u89, u90, u91, u92, u93, u94, u95, u96, u97, u98, u99, u100, u101, u102, u103, u104, u105, u106, u107, u108, u109, u110, u111, u112, u113, u114, u115, u116, u117, u118, u119, u120, u121, u122, u123, u124, u125, u126, u127, u128, u129, u130, u131, u132, u133, u134, u135, u136, u137, u138, u139, u140, u141, u142, u143, u144, u145, u146, u147, u148, u149, u150, u151, u152, u153, u154, u155, u156, u157, u158, u159, u160, u161, u162, u163, u164, u165, u166, u167, u168, u169, u170, u171, u172, u173, u174, u175, u176, u177, u178, u179, u180, u181, u182, u183, u184, u185, u186, u187, u188, u189, u190, u191, u192, u193, u194, u195, u196, u197, u198, u199, u200, u201, u202, u203, u204, u205, u206, u207, u208, u209, u210, u211, u212, u213, u214, u215, u216, u217, u218, u219, u220, u221, u222, u223, u224, u225, u226, u227, u228, u229, u230, u231, u232, u233, u234, u235, u236, u237, u238, u239, u240, u241, u242, u243, u244, u245, u246, u247, u248, u249, u250, u251, u252, u253, u254, u255, u256, u257, u258, u259, u260, u261, u262, u263, u264, u265, u266, u267, u268, u269, u270, u271, u272, u273, u274, u275, u276, u277, u278, u279, u280, u281, u282, u283, u284, u285, u286, u287, u288, u289, u290, u291, u292, u293, u294, u295, u296, u297, u298, u299, u300, u301, u302, u303, u304, u305, u306, u307, u308, u309, u310, u311, u312, u313, u314, u315, u316, u317, u318, u319, u320, u321, u322, u323, u324, u325, u326, u327, u328, u329, u330, u331, u332, u333, u334, u335, u336, u337, u338, u339, u340, u341, u342, u343, u344, u345, u346, u347, u348, u349, u350, u351, u352, u353, u354, u355, u356, u357, u358, u359, u360, u361, u362, u363, u364, u365, u366, u367, u368, u369, u370, u371, u372, u373, u374, u375, u376, u377, u378, u379, u380, u381, u382, u383, u384, u385, u386, u387, u388, u389, u390, u391, u392, u393, u394, u395, u396, u397, u398, u399, u400, u401, u402, u403, u404, u405, u406, u407, u408, u409, u410, u411, u412, u413, u414, u415, u416, u417, u418, u419, u420, u421, u422, u423, u424, u425, u426, u427, u428, u429, u430, u431, u432, u433, u434, .slice (some ⟨R.ses s, 0, none⟩) l.length cS, u436, .int .i64 k, u438, u439, u440, u441, u442, u443, u444, u445, u446, u447, u448, u449, u450, u451, u452, u453, u454, u455, u456, u457, u458, u459, u460, u461, u462, u463, u464, u465, u466, u467, u468, u469, u470, u471, u472, u473, u474, u475, u476, u477, u478, u479, u480, u481, u482, u483, u484, u485, u486, u487, u488, u489, u490, u491, u492, u493, u494, u495, u496, u497, u498, u499, u500, u501, u502, u503, u504, u505, u506] [] (fun _ y wc => ∃ (g : GG) (G : List (List Nat)) (fa : List Int) (wait : Nat → Option Nat) (bf : Int), y = .int .i64 bf ∧ Pcs w wc (LE w R.top hs.length cap A fC nV fV bF zs bN NS g G J0 sg ss og os TX NM bO om sm T ++ [([bA], IntsAt bA ss.length fa)] ++ [([bM], fun z => MapAt z (ik .i64) bM (fun m => (wait m).map (ik .i64)))]) ∧ FA hs F A zs vars vers ss s (k + 1) 0 fa wait ∧ GA hs A zs G0 s (k + 1) bf G) a' w' → J a' w') (hK : ∀ a' w', Met J a' w' → K' a' w') : c20.wp Ybaz.prog (Exit.then K' Q') ⟨[u0, u1, u2, u3, u4, u5, u6, u7, u8, u9, u10, u11, u12, u13, u14, u15, u16, u17, .pointer (some ⟨bN + 1, 0, none⟩), u19, .map (some (bN + 3)), u21, u22, u23, .map (some bO), .map (some (bO + 1)), u26, u27, u28, u29, u30, u31, u32, u33, u34, u35, u36, u37, u38, .slice (some ⟨bA, 0, none⟩) ss.length ss.length, u40, .map (some bM), .int .i64 s, u43, .int .i64 bf, u45, u46, u47, u48, u49, u50, u51, u52, u53, u54, u55, u56, u57, u58, u59, u60, u61, u62, u63, u64, u65, u66, u67, u68, u69, u70, u71, u72, u73, u74, u75, u76, u77, u78, u79, u80, u81, u82, u83, u84, u85, u86, u87, u88, u89, u90, u91, u92, u93, u94, u95, u96, u97, u98, u99, u100, u101, u102, u103, u104, u105, u106, u107, u108, u109, u110, u111, u112, u113, u114, u115, u116, u117, u118, u119, u120, u121, u122, u123, u124, u125, u126, u127, u128, u129, u130, u131, u132, u133, u134, u135, u136, u137, u138, u139, u140, u141, u142, u143, u144, u145, u146, u147, u148, u149, u150, u151, u152, u153, u154, u155, u156, u157, u158, u159, u160, u161, u162, u163, u164, u165, u166, u167, u168, u169, u170, u171, u172, u173, u174, u175, u176, u177, u178, u179, u180, u181, u182, u183, u184, u185, u186, u187, u188, u189, u190, u191, u192, u193, u194, u195, u196, u197, u198, u199, u200, u201, u202, u203, u204, u205, u206, u207, u208, u209, u210, u211, u212, u213, u214, u215, u216, u217, u218, u219, u220, u221, u222, u223, u224, u225, u226, u227, u228, u229, u230, u231, u232, u233, u234, u235, u236, u237, u238, u239, u240, u241, u242, u243, u244, u245, u246, u247, u248, u249, u250, u251, u252, u253, u254, u255, u256, u257, u258, u259, u260, u261, u262, u263, u264, u265, u266, u267, u268, u269, u270, u271, u272, u273, u274, u275, u276, u277, u278, u279, u280, u281, u282, u283, u284, u285, u286, u287, u288, u289, u290, u291, u292, u293, u294, u295, u296, u297, u298, u299, u300, u301, u302, u303, u304, u305, u306, u307, u308, u309, u310, u311, u312, u313, u314, u315, u316, u317, u318, u319, u320, u321, u322, u323, u324, u325, u326, u327, u328, u329, u330, u331, u332, u333, u334, u335, u336, u337, u338, u339, u340, u341, u342, u343, u344, u345, u346, u347, u348, u349, u350, u351, u352, u353, u354, u355, u356, u357, u358, u359, u360, u361, u362, u363, u364, u365, u366, u367, u368, u369, u370, u371, u372, u373, u374, u375, u376, u377, u378, u379, u380, u381, u382, u383, u384, u385, u386, u387, u388, u389, u390, u391, u392, u393, u394, u395, u396, u397, u398, u399, u400, u401, u402, u403, u404, u405, u406, u407, u408, u409, u410, u411, u412, u413, u414, u415, u416, u417, u418, u419, u420, u421, u422, u423, u424, u425, u426, u427, u428, u429, u430, u431, u432, u433, u434, .slice (some ⟨R.ses s, 0, none⟩) l.length cS, u436, .int .i64 k, u438, u439, u440, u441, u442, u443, u444, u445, u446, u447, u448, u449, u450, u451, u452, u453, u454, u455, u456, u457, u458, u459, u460, u461, u462, u463, u464, u465, u466, u467, u468, u469, u470, u471, u472, u473, u474, u475, u476, u477, u478, u479, u480, u481, u482, u483, u484, u485, u486, u487, u488, u489, u490, u491, u492, u493, u494, u495, u496, u497, u498, u499, u500, u501, u502, u503, u504, u505, u506].toArray, []⟩ wr := by
  have P9 : Hid _ := hP
  have EE : Hid _ := E
  have FH : Hid _ := hFA
  have GH : Hid _ := hGA
  have HJ : Hid _ := hJ
  have H' : Hid _ := H
  have O' : Hid _ := O
  have WW : Hid _ := W
  have NI : Hid _ := nmi
  have HVB : Hid (∀ s k e x, At hs s k e x → x.v < 900 ∧ x.x < 900) := hvb
  have HAR : Hid (A = rksAll 0 hs) := hA
  have ZP : Hid (zs.Perm (List.range A.length)) := hp
  have L3 : Hid (hs[s]? = some l) := hl
  have T3 : Hid (l[k]? = some t) := ht
  have hsl : s < 90 := by have := (List.getElem?_eq_some_iff.mp hl).1; have := O.small; omega
  have hl9 := O.small2 l (List.mem_of_getElem? hl)
  have hkl : k < l.length := (List.getElem?_eq_some_iff.mp ht).1
  have hte := O.small3 l (List.mem_of_getElem? hl) t (List.mem_of_getElem? ht)
  have hwG : wt G ≤ 110000 := by have := hGA.wtI; have := E.wtG; omega
  have HW := H.below hP.bel
  obtain ⟨o2, c3, c4⟩ := HW.base.evs s l k t hl ht
  have a1 := HW.base.com s l k t hl ht
  have C4 : Hid (t.evs ≠ [] → o2 = some ⟨R.evs s k, 0, none⟩) := c4
  obtain ⟨bT, hbT⟩ : ∃ z, z = wr.heap.size := ⟨_, rfl⟩
  have PA : Hid (Pcs w (wr.alloc (.cells #[.slice o2 t.evs.length (R.ec s k), .bool t.com] 39)) (LE w R.top hs.length cap A fC nV fV bF zs bN NS g G J0 sg ss og os TX NM bO om sm T ++ [([bA], IntsAt bA ss.length fa)] ++ [([bM], fun z => MapAt z (ik .i64) bM (fun m => (wait m).map (ik .i64)))] ++ [([bT], BlkIs bT 39 #[.slice o2 t.evs.length (R.ec s k), .bool t.com])])) := by
    rw [hbT]
    exact hP.add (Upd.alloc [] _ _) (by simp) [wr.heap.size] _ (Blk.new _ _ _) (BlkIs.keeps _ _ _) (by simp) (by simp)
  clear hP E hFA hGA hJ H O W nmi hl ht hvb HW P9 hA hp c4
  conv => arg 2; whnf
  go_upto_region 97 with fail
  obtain ⟨W1, hW1⟩ : ∃ z : World, z = wr.alloc (.cells #[.slice o2 t.evs.length (R.ec s k), .bool t.com] 39) := ⟨_, rfl⟩
  rw [← hW1] at PA ⊢
  rw [← hbT]
  clear hW1 hbT a1 c3
  have bT7 : Blk W1 bT 39 #[.slice o2 t.evs.length (R.ec s k), .bool t.com] := PA.out.mem (i := 13) rfl
  have e1 : W1.cell? ⟨bT, 1, none⟩ = some (.bool t.com) := bT7.cell 1
  clear bT7
  cases hcm : t.com with
  | false =>
    rw [hcm] at e1
    have HNC : Hid (¬ Cm hs s k) := by
      rintro ⟨l', t', q1, q2, q3⟩
      rw [L3.out] at q1; cases q1
      rw [T3.out] at q2; cases q2
      rw [hcm] at q3; cases q3
    clear hcm
    go_wp2_with fail
    refine Met.intro ?_
    refine HJ.out _ _ ?_
    refine MeetC.of undef (.int .i64 bf) ?_ ?_
    · rfl
    exact ⟨g, G, fa, wait, bf, rfl, PA.out.take 13, FH.out.next, GH.out.skip HAR.out ZP.out HNC.out⟩
  | true =>
    rw [hcm] at e1
    have HC : Hid (t.com = true) := hcm
    have CM : Hid (Cm hs s k) := ⟨l, t, L3.out, T3.out, hcm⟩
    clear hcm
    obtain ⟨v, hv1, hv, hv3⟩ := NI.out.find HAR.out ZP.out CM.out
    have HNM : Hid (NM (s, k) = some v) := hv1
    have AV : Hid ((ats A zs)[v]? = some (s, k)) := hv3
    clear hv1 hv3
    go_upto_if 451 with (at_lookup; refine wpList_look1 rfl (.tmp 445) (.tmp 448) 134 rfl Ybaz.underlying134 key105 (bN + 3) _ (PA.out.mem (i := 7) rfl) (s, k) zero3 rfl rfl (.int .i64 v) (by simp only [HNM.out]; rfl) ?_)
    clear e1
    refine wp_cutC [none, none, none, none, none, none, none, none, none, none, none, none, none, none, none, none, none, none, none, none, none, none, none, none, none, none, none, none, none, none, none, none, none, none, none, none, none, none, none, none, none, none, none, none, none, none, none, none, none, none, none, none, none, none, none, none, none, none, none, none, none, none, none, none, none, none, none, none, none, none, none, none, none, none, none, none, none, none, none, none, none, none, none, none, none, none, none, none, none, none, none, none, none, none, none, none, none, none, none, none, none, none, none, none, none, none, none, none, none, none, none, none, none, none, none, none, none, none, none, none, none, none, none, none, none, none, none, none, none, none, none, none, none, none, none, none, none, none, none, none, none, none, none, none, none, none, none, none, none, none, none, none, none, none, none, none, none, none, none, none, none, none, none, none, none, none, none, none, none, none, none, none, none, none, none, none, none, none, none, none, none, none, none, none, none, none, none, none, none, none, none, none, none, none, none, none, none, none, none, none, none, none, none, none, none, none, none, none, none, none, none, none, none, none, none, none, none, none, none, none, none, none, none, none, none, none, none, none, none, none, none, none, none, none, none, none, none, none, none, none, none, none, none, none, none, none, none, none, none, none, none, none, none, none, none, none, none, none, none, none, none, none, none, none, none, none, none, none, none, none, none, none, none, none, none, none, none, none, none, none, none, none, none, none, none, none, none, none, none, none, none, none, none, none, none, none, none, none, none, none, none, none, none, none, none, none, none, none, none, none, none, none, none, none, none, none, none, none, none, none, none, none, none, none, none, none, none, none, none, none, none, none, none, none, none, none, none, none, none, none, none, none, none, none, none, none, none, none, none, none, none, none, none, none, none, none, none, none, none, none, none, none, none, none, none, none, none, none, none, none, none, none, none, none, none, none, none, none, none, none, none, none, none, none, none, none, none, none, none, none, none, none, none, none, none, none, none, none, none, none, none, none, none, none, none, none, none, none, none, none, none, none, none, none, none, none, none, none, none, none, none, none, none, none, none, none, none, none, none, none, none, none, none, none, none, none, none, none, none, none, none, none, none, none, none, none, none, none, none, none, none, none, some none, some none, some none, some none, some none, some none, none, none, none, none, none, none, none, none, none, none, none, none, none, none, none, none, none, none, none, none, none, none, none, none, none, none, none, none, none, none, none, none, none, none, none, none, none, none, none, none, none, none, none, none, none, none, none, none, none] (fun _ _ wc => ∃ (g : GG) (G : List (List Nat)), Pcs w wc (LE w R.top hs.length cap A fC nV fV bF zs bN NS g G J0 sg ss og os TX NM bO om sm T ++ [([bA], IntsAt bA ss.length fa)] ++ [([bM], fun z => MapAt z (ik .i64) bM (fun m => (wait m).map (ik .i64)))] ++ [([bT], BlkIs bT 39 #[.slice o2 t.evs.length (R.ec s k), .bool t.com])]) ∧ GA hs A zs G0 s (k + 1) (v : Int) G) ?_ ?_
    · as_aux_lemma =>
      intro J8 K8 hJ8 hK8
      have HJ8 : Hid _ := hJ8
      clear hJ8
      by_cases hb : 0 ≤ bf
      · as_aux_lemma =>
        obtain ⟨u0, hu0⟩ : ∃ u0 : Nat, bf = (u0 : Int) := ⟨bf.toNat, by omega⟩
        subst hu0
        obtain ⟨hul, hG2⟩ := GH.out.arc HAR.out ZP.out hv AV.out (u0 := u0) rfl
        have GH2 : Hid _ := hG2
        have PG : Poly (bN + 1) bN bF A.length g G J0 sg ss og os W1 := PA.out.mem (i := 5) rfl
        have PGH : Hid _ := PG
        have HCC : Hid _ := addArc_arc W1 (bN + 1) 2 g G J0 PG.gr u0 v (by rw [GH.out.len]; exact hul) (by omega)
        clear hG2 PG
        go_wp2_with fail
        refine Calls.mono HCC.out ?_
        rintro e' w2 ⟨rfl, g', r1, r2⟩
        obtain ⟨p1, p2, p3⟩ := PGH.out.arc r1 r2
        have PB : Hid (Pcs w w2 (LE w R.top hs.length cap A fC nV fV bF zs bN NS g' (arc G u0 v) J0 sg ss og os TX NM bO om sm T ++ [([bA], IntsAt bA ss.length fa)] ++ [([bM], fun z => MapAt z (ik .i64) bM (fun m => (wait m).map (ik .i64)))] ++ [([bT], BlkIs bT 39 #[.slice o2 t.evs.length (R.ec s k), .bool t.com])])) := PA.out.put (i := 5) rfl p2 p1 (Poly.keeps _ _ _ _ _ _ _ _ _ _ _) p3 p1.nd
        clear r1 r2 p1 p2 p3 PGH HCC PA
        go_wp2_with fail
        refine Met.intro ?_
        refine HJ8.out _ _ ?_
        refine MeetC.of undef undef ?_ ?_
        · rfl
        exact ⟨g', arc G u0 v, PB.out, GH2.out⟩
      · as_aux_lemma =>
        go_wp2_with fail
        refine Met.intro ?_
        refine HJ8.out _ _ ?_
        refine MeetC.of undef undef ?_ ?_
        · rfl
        exact ⟨g, G, PA.out, GH.out.first HAR.out ZP.out hv AV.out (by omega)⟩
    · as_aux_lemma =>
      intro u8 x8 y8 wc hcut
      obtain ⟨g, G, h1, h2⟩ := hcut
      clear PA GH hwG
      have P9 : Hid _ := h1
      have GH : Hid _ := h2
      clear h1 h2
      dsimp only [fillC, Nat.reduceAdd]
      have bT7 : Blk wc bT 39 #[.slice o2 t.evs.length (R.ec s k), .bool t.com] := P9.out.mem (i := 13) rfl
      have e0 : wc.cell? ⟨bT, 0, none⟩ = some (.slice o2 t.evs.length (R.ec s k)) := bT7.cell 0
      clear bT7
      go_wp2_with fail
      clear e0
      refine wp_loopC [none, none, none, none, none, none, none, none, none, none, none, none, none, none, none, none, none, none, none, none, none, none, none, none, none, none, none, none, none, none, none, none, none, none, none, none, none, none, none, none, none, none, none, none, none, none, none, none, none, some none, some none, some none, some none, some none, some none, none, none, none, none, none, none, none, none, none, none, none, none, none, none, none, none, none, none, none, none, none, none, none, none, none, none, none, none, none, none, none, none, none, none, none, none, none, none, none, none, none, none, none, none, none, none, none, none, none, none, none, none, none, none, none, none, none, none, none, none, none, none, none, none, none, none, none, none, none, none, none, none, none, none, none, none, none, none, none, none, none, none, none, none, none, none, none, none, none, none, none, none, none, none, none, none, none, none, none, none, none, none, none, none, none, none, none, none, none, none, none, none, none, none, none, none, none, none, none, none, none, none, none, none, none, none, none, none, none, none, none, none, none, none, none, none, none, none, none, none, none, none, none, none, none, none, none, none, none, none, none, none, none, none, none, none, none, none, none, none, none, none, none, none, none, none, none, none, none, none, none, none, none, none, none, none, none, none, none, none, none, none, none, none, none, none, none, none, none, none, none, none, none, none, none, none, none, none, none, none, none, none, none, none, none, none, none, none, none, none, none, none, none, none, none, none, none, none, none, none, none, none, none, none, none, none, none, none, none, none, none, none, none, none, none, none, none, none, none, none, none, none, none, none, none, none, none, none, none, none, none, none, none, none, none, none, none, none, none, none, none, none, none, none, none, none, none, none, none, none, none, none, none, none, none, none, none, none, none, none, none, none, none, none, none, none, none, none, none, none, none, none, none, none, none, none, none, none, none, none, none, none, none, none, none, none, none, none, none, none, none, none, none, none, none, none, none, none, none, none, none, none, none, none, none, none, none, none, none, none, none, none, none, none, none, none, none, none, none, none, none, none, none, none, none, none, none, none, none, none, none, none, none, none, none, none, none, none, none, none, none, none, none, none, none, none, none, none, none, none, none, none, none, none, none, none, none, none, none, none, none, none, none, none, none, none, none, none, none, none, none, none, none, none, none, none, none, none, none, none, none, none, none, none, none, none, none, some (some false), some none, some none, some none, some none, some none, some none, some none, some none, some none, some none, some none, some none, some none, some none, some none, some none, some none, some none, some none, some none, some none, some none, some none, some none, some none, some none, some none, some none, some none, some none, some none, some none, some none, some none, some none, none, none, none, none, none, none, none, none, none] (fun n11 t462 _ wr => ∃ (e : Nat) (fa : List Int) (wait : Nat → Option Nat), e ≤ t.evs.length ∧ n11 = t.evs.length - e ∧ t462 = .int .i64 e ∧ Pcs w wr (LE w R.top hs.length cap A fC nV fV bF zs bN NS g G J0 sg ss og os TX NM bO om sm T ++ [([bA], IntsAt bA ss.length fa)] ++ [([bM], fun z => MapAt z (ik .i64) bM (fun m => (wait m).map (ik .i64)))] ++ [([bT], BlkIs bT 39 #[.slice o2 t.evs.length (R.ec s k), .bool t.com])]) ∧ FA hs F A zs vars vers ss s k e fa wait) t.evs.length (.int .i64 0) undef rfl ⟨0, fa, wait, by omega, by omega, rfl, P9.out, FH.out⟩ ?_
      intro n11 u11 x11 y11 wr J11 K11 hrel hJ11 hK11
      obtain ⟨e, fa, wait, he1, rfl, rfl, h1, h2⟩ := hrel
      clear P9 FH
      have HJ11 : Hid _ := hJ11
      have P9 : Hid _ := h1
      have FH : Hid _ := h2
      clear hJ11 h1 h2
      dsimp only [fillC, Nat.reduceAdd]
      by_cases hlte : e < t.evs.length
      · as_aux_lemma =>
        obtain ⟨x, hx⟩ := has_at t.evs hlte
        have HX : Hid (t.evs[e]? = some x) := hx
        have ho2 : o2 = some ⟨R.evs s k, 0, none⟩ := C4.out (by intro h; rw [h] at hlte; simp at hlte)
        subst ho2
        clear hx
        go_upto_if 463 with fail
        rename_i Kc hKc
        have HKc : Hid _ := hKc
        clear hKc
        go_wp2_with fail
        refine HKc.out _ _ ?_
        refine wp_seq_k ?_
        intro Kd hKd
        have HKd : Hid _ := hKd
        clear hKd
        refine wp_cutC [none, none, none, none, none, none, none, none, none, none, none, none, none, none, none, none, none, none, none, none, none, none, none, none, none, none, none, none, none, none, none, none, none, none, none, none, none, none, none, none, none, none, none, none, none, none, none, none, none, some none, some none, some none, some none, some none, some none, none, none, none, none, none, none, none, none, none, none, none, none, none, none, none, none, none, none, none, none, none, none, none, none, none, none, none, none, none, none, none, none, none, none, none, none, none, none, none, none, none, none, none, none, none, none, none, none, none, none, none, none, none, none, none, none, none, none, none, none, none, none, none, none, none, none, none, none, none, none, none, none, none, none, none, none, none, none, none, none, none, none, none, none, none, none, none, none, none, none, none, none, none, none, none, none, none, none, none, none, none, none, none, none, none, none, none, none, none, none, none, none, none, none, none, none, none, none, none, none, none, none, none, none, none, none, none, none, none, none, none, none, none, none, none, none, none, none, none, none, none, none, none, none, none, none, none, none, none, none, none, none, none, none, none, none, none, none, none, none, none, none, none, none, none, none, none, none, none, none, none, none, none, none, none, none, none, none, none, none, none, none, none, none, none, none, none, none, none, none, none, none, none, none, none, none, none, none, none, none, none, none, none, none, none, none, none, none, none, none, none, none, none, none, none, none, none, none, none, none, none, none, none, none, none, none, none, none, none, none, none, none, none, none, none, none, none, none, none, none, none, none, none, none, none, none, none, none, none, none, none, none, none, none, none, none, none, none, none, none, none, none, none, none, none, none, none, none, none, none, none, none, none, none, none, none, none, none, none, none, none, none, none, none, none, none, none, none, none, none, none, none, none, none, none, none, none, none, none, none, none, none, none, none, none, none, none, none, none, none, none, none, none, none, none, none, none, none, none, none, none, none, none, none, none, none, none, none, none, none, none, none, none, none, none, none, none, none, none, none, none, none, none, none, none, none, none, none, none, none, none, none, none, none, none, none, none, none, none, none, none, none, none, none, none, none, none, none, none, none, none, none, none, none, none, none, none, none, none, none, none, none, none, none, none, none, none, none, none, none, none, none, none, none, none, none, none, none, none, none, none, none, none, none, none, none, none, none, none, some none, some none, some none, some none, some none, some none, some none, some none, some none, some none, some none, some none, some none, some none, some none, some none, some none, some none, some none, some none, some none, some none, some none, some none, some none, some none, some none, some none, some none, some none, some none, some none, some none, none, none, none, none, none, none, none, none, none, none] (fun _ _ wc => ∃ (fa : List Int) (wait : Nat → Option Nat), Pcs w wc (LE w R.top hs.length cap A fC nV fV bF zs bN NS g G J0 sg ss og os TX NM bO om sm T ++ [([bA], IntsAt bA ss.length fa)] ++ [([bM], fun z => MapAt z (ik .i64) bM (fun m => (wait m).map (ik .i64)))] ++ [([bT], BlkIs bT 39 #[.slice (some ⟨R.evs s k, 0, none⟩) t.evs.length (R.ec s k), .bool t.com])]) ∧ FA hs F A zs vars vers ss s k (e + 1) fa wait) (fun J K' hJ hK => ev22 w R hs cap A fC nV fV bF zs bN NS J0 sg ss og os TX NM bO om sm T vars vers F c0 (R.ec s k) G0 EE.out H'.out O'.out WW.out HAR.out h12 ZP.out NI.out HVB.out g G fa wait bA bM bT v s k e l t x _ L3.out T3.out HX.out HC.out hv AV.out wr P9.out FH.out J K' _ hJ hK) ?_
        intro u8 x8 y8 wc hcut
        obtain ⟨fa, wait, h1, h2⟩ := hcut
        clear P9 FH
        have P9 : Hid _ := h1
        have FH : Hid _ := h2
        clear h1 h2
        dsimp only [fillC, Nat.reduceAdd]
        refine HKd.out _ _ ?_
        go_wp2_with fail
        refine Met.intro ?_
        refine HJ11.out _ _ ?_
        refine EndC.of (t.evs.length - (e + 1)) (.int .i64 ((e : Int) + 1)) undef ?_ (by omega) ?_
        · rfl
        exact ⟨e + 1, fa, wait, by omega, rfl, by go_num, P9.out, FH.out⟩
      · as_aux_lemma =>
        go_wp2_with fail
        refine Met.intro ?_
        refine HJ.out _ _ ?_
        refine MeetC.of undef (.int .i64 v) ?_ ?_
        · rfl
        exact ⟨g, G, fa, wait, v, rfl, P9.out.take 13, FH.out.next, GH.out⟩
end Go.Proofs.YbulkctquGreatFmt

/-
  newSessionPolygraph: forcedAfter, the sessions, the end.
-/
import Derived.Test.YbulkctquGreatFmtNspM
import Derived.Test.YbulkctquGreatFmtNspW
import Derived.Test.YbulkctquGreatFmtNspXT
import Derived.Deep.RegionWith
import Derived.BigQuiet
import Derived.Deep.DeepCutAuto
namespace Go.Proofs.YbulkctquGreatFmt
open Go.ChangeShapes Go.WideShapes Go.ChangeAt Go.RowKit Go.Ord
set_option linter.unusedVariables false
attribute [-go_sem] Go.Builtin.append_ Go.Instr.buildSlice
set_option maxHeartbeats 16000000 in
set_option maxRecDepth 100000 in
theorem tail88T {u0 u1 u3 u4 u5 u6 u7 u8 u9 u10 u11 u12 u13 u14 u15 u16 u17 u21 u22 u23 u26 u27 u28 u29 u30 u31 u32 u33 u34 u35 u36 u37 u38 u40 u41 u42 u43 u44 u45 u46 u47 u48 u49 u50 u51 u52 u53 u54 u55 u56 u57 u58 u59 u60 u61 u62 u63 u64 u65 u66 u67 u68 u69 u70 u71 u72 u73 u74 u75 u76 u77 u78 u79 u80 u81 u82 u83 u84 u85 u86 u87 u88 u89 u90 u91 u92 u93 u94 u95 u96 u97 u98 u99 u100 u101 u102 u103 u104 u105 u106 u107 u108 u109 u110 u111 u112 u113 u114 u115 u116 u117 u118 u119 u120 u121 u122 u123 u124 u125 u126 u127 u128 u129 u130 u131 u132 u133 u134 u135 u136 u137 u138 u139 u140 u141 u142 u143 u144 u145 u146 u147 u148 u149 u150 u151 u152 u153 u154 u155 u156 u157 u158 u159 u160 u161 u162 u163 u164 u165 u166 u167 u168 u169 u170 u171 u172 u173 u174 u175 u176 u177 u178 u179 u180 u181 u182 u183 u184 u185 u186 u187 u188 u189 u190 u191 u192 u193 u194 u195 u196 u197 u198 u199 u200 u201 u202 u203 u204 u205 u206 u207 u208 u209 u210 u211 u212 u213 u214 u215 u216 u217 u218 u219 u220 u221 u222 u223 u224 u225 u226 u227 u228 u229 u230 u231 u232 u233 u234 u235 u236 u237 u238 u239 u240 u241 u242 u243 u244 u245 u246 u247 u248 u249 u250 u251 u252 u253 u254 u255 u256 u257 u258 u259 u260 u261 u262 u263 u264 u265 u266 u267 u268 u269 u270 u271 u272 u273 u274 u275 u276 u277 u278 u279 u280 u281 u282 u283 u284 u285 u286 u287 u288 u289 u290 u291 u292 u293 u294 u295 u296 u297 u298 u299 u300 u301 u302 u303 u304 u305 u306 u307 u308 u309 u310 u311 u312 u313 u314 u315 u316 u317 u318 u319 u320 u321 u322 u323 u324 u325 u326 u327 u328 u329 u330 u331 u332 u333 u334 u335 u336 u337 u338 u339 u340 u341 u342 u343 u344 u345 u346 u347 u348 u349 u350 u351 u352 u353 u354 u355 u356 u357 u358 u359 u360 u361 u362 u363 u364 u365 u366 u367 u368 u369 u370 u371 u372 u373 u374 u375 u376 u377 u378 u379 u380 u381 u382 u383 u384 u385 u386 u387 u388 u389 u390 u391 u392 u393 u394 u395 u396 u397 u398 u399 u400 u401 u402 u403 u404 u405 u406 u407 u408 u409 u410 u411 u412 u413 u414 u415 u416 u417 u418 u419 u420 u421 u422 u423 u424 u425 u426 u427 u428 u429 u430 u431 u432 u433 u434 u435 u436 u437 u438 u439 u440 u441 u442 u443 u444 u445 u446 u447 u448 u449 u450 u451 u452 u453 u454 u455 u456 u457 u458 u459 u460 u461 u462 u463 u464 u465 u466 u467 u468 u469 u470 u471 u472 u473 u474 u475 u476 u477 u478 u479 u480 u481 u482 u483 u484 u485 u486 u487 u488 u489 u490 u491 u492 u493 u494 u495 u496 u497 u498 u499 u500 u501 u502 u503 u504 u505 u506 : Value} (w : World) (R : HR) (hs : List (List Tx)) (cap : Nat) (A : List Rk) (fC : List Nat) (nV : Nat) (fV : List Nat) (bF : Nat) (zs : List Nat) (bN : Nat) (NS : List (List UInt8)) (J0 : List Bool) (sg : SG) (ss : List Sr) (og : OG) (os : List Ob) (TX : List (Nat × Nat)) (NM : Nat × Nat → Option Nat) (bO : Nat) (om sm : Nat → Option Nat) (T : List Nat) (vars vers : List Nat) (F : Nat → Option Wr) (c0 : Nat) (G0 : List (List Nat)) (E : EI hs F A zs NM A.length 0 om sm vars vers os ss G0 c0) (H : HistE w R hs) (O : HOk hs) (W : WF hs F) (hA : A = rksAll 0 hs) (h12 : A.length ≤ 12) (hp : zs.Perm (List.range A.length)) (nmi : NMI A zs A.length NM) (hvb : ∀ s k e x, At hs s k e x → x.v < 900 ∧ x.x < 900) (hc0 : c0 ≤ 100000) (hw0 : wt G0 ≤ 60000) (hz : Sorted A zs) (hJ0 : J0 = List.replicate A.length false) (hNS : NS = nmsAt A zs A.length ∧ TX = txsAt A zs A.length) (h90 : hs.length < 90) (hRN : ∀ s ∈ ss, s.rd ≠ []) (g : GG) (bA : Nat) (wr : World) (hP : Pcs w wr (LE w R.top hs.length cap A fC nV fV bF zs bN NS g G0 J0 sg ss og os TX NM bO om sm T ++ [([bA], IntsAt bA ss.length (List.replicate ss.length (-1)))])) : c88.wp Ybaz.prog (bodyPost Ybaz.prog Ybaz.f14 (NspPostT w hs F)) ⟨[u0, u1, .pointer (some ⟨w.heap.size, 0, none⟩), u3, u4, u5, u6, u7, u8, u9, u10, u11, u12, u13, u14, u15, u16, u17, .pointer (some ⟨bN + 1, 0, none⟩), .slice (some ⟨bN + 2, 0, none⟩) A.length A.length, .map (some (bN + 3)), u21, u22, u23, .map (some bO), .map (some (bO + 1)), u26, u27, u28, u29, u30, u31, u32, u33, u34, u35, u36, u37, u38, .slice (some ⟨bA, 0, none⟩) ss.length ss.length, u40, u41, u42, u43, u44, u45, u46, u47, u48, u49, u50, u51, u52, u53, u54, u55, u56, u57, u58, u59, u60, u61, u62, u63, u64, u65, u66, u67, u68, u69, u70, u71, u72, u73, u74, u75, u76, u77, u78, u79, u80, u81, u82, u83, u84, u85, u86, u87, u88, u89, u90, u91, u92, u93, u94, u95, u96, u97, u98, u99, u100, u101, u102, u103, u104, u105, u106, u107, u108, u109, u110, u111, u112, u113, u114, u115, u116, u117, u118, u119, u120, u121, u122, u123, u124, u125, u126, u127, u128, u129, u130, u131, u132, u133, u134, u135, u136, u137, u138, u139, u140, u141, u142, u143, u144, u145, u146, u147, u148, u149, u150, u151, u152, u153, u154, u155, u156, u157, u158, u159, u160, u161, u162, u163, u164, u165, u166, u167, u168, u169, u170, u171, u172, u173, u174, u175, u176, u177, u178, u179, u180, u181, u182, u183, u184, u185, u186, u187, u188, u189, u190, u191, u192, u193, u194, u195, u196, u197, u198, u199, u200, u201, u202, u203, u204, u205, u206, u207, u208, u209, u210, u211, u212, u213, u214, u215, u216, u217, u218, u219, u220, u221, u222, u223, u224, u225, u226, u227, u228, u229, u230, u231, u232, u233, u234, u235, u236, u237, u238, u239, u240, u241, u242, u243, u244, u245, u246, u247, u248, u249, u250, u251, u252, u253, u254, u255, u256, u257, u258, u259, u260, u261, u262, u263, u264, u265, u266, u267, u268, u269, u270, u271, u272, u273, u274, u275, u276, u277, u278, u279, u280, u281, u282, u283, u284, u285, u286, u287, u288, u289, u290, u291, u292, u293, u294, u295, u296, u297, u298, u299, u300, u301, u302, u303, u304, u305, u306, u307, u308, u309, u310, u311, u312, u313, u314, u315, u316, u317, u318, u319, u320, u321, u322, u323, u324, u325, u326, u327, u328, u329, u330, u331, u332, u333, u334, u335, u336, u337, u338, u339, u340, u341, u342, u343, u344, u345, u346, u347, u348, u349, u350, u351, u352, u353, u354, u355, u356, u357, u358, u359, u360, u361, u362, u363, u364, u365, u366, u367, u368, u369, u370, u371, u372, u373, u374, u375, u376, u377, u378, u379, u380, u381, u382, u383, u384, u385, u386, u387, u388, u389, u390, u391, u392, u393, u394, u395, u396, u397, u398, u399, u400, u401, u402, u403, u404, u405, u406, u407, u408, u409, u410, u411, u412, u413, u414, u415, u416, u417, u418, u419, u420, u421, u422, u423, u424, u425, u426, u427, u428, u429, u430, u431, u432, u433, u434, u435, u436, u437, u438, u439, u440, u441, u442, u443, u444, u445, u446, u447, u448, u449, u450, u451, u452, u453, u454, u455, u456, u457, u458, u459, u460, u461, u462, u463, u464, u465, u466, u467, u468, u469, u470, u471, u472, u473, u474, u475, u476, u477, u478, u479, u480, u481, u482, u483, u484, u485, u486, u487, u488, u489, u490, u491, u492, u493, u494, u495, u496, u497, u498, u499, u500, u501, u502, u503, u504, u505, u506].toArray, []⟩ wr := by
  have cB : wr.cell? ⟨w.heap.size, 0, none⟩ = some (.slice (some ⟨R.top, 0, none⟩) hs.length cap) := hP.mem (i := 0) rfl
  have cBa : (wr.alloc (.map #[] 0)).cell? ⟨w.heap.size, 0, none⟩ = some (.slice (some ⟨R.top, 0, none⟩) hs.length cap) := (Upd.alloc [] _ _).cell cB (by simp)
  have m1 := MapAt.new wr (ik .i64)
  have PA : Hid (Pcs w (wr.alloc (.map #[] 0)) (LE w R.top hs.length cap A fC nV fV bF zs bN NS g G0 J0 sg ss og os TX NM bO om sm T ++ [([bA], IntsAt bA ss.length (List.replicate ss.length (-1)))] ++ [([wr.heap.size], fun z => MapAt z (ik .i64) wr.heap.size (fun m => ((fun _ => none : Nat → Option Nat) m).map (ik .i64)))])) := hP.add (Upd.alloc [] _ _) (by simp) [wr.heap.size] (fun z => MapAt z (ik .i64) wr.heap.size (fun m => ((fun _ => none : Nat → Option Nat) m).map (ik .i64))) (m1.congr (fun _ => rfl)) (mapKeeps _ _ _) (by simp) (by simp)
  have EE : Hid _ := E
  have H' : Hid _ := H
  have O' : Hid _ := O
  have WW : Hid _ := W
  have NI : Hid _ := nmi
  have HVB : Hid (∀ s k e x, At hs s k e x → x.v < 900 ∧ x.x < 900) := hvb
  have HAR : Hid (A = rksAll 0 hs) := hA
  have ZP : Hid (zs.Perm (List.range A.length)) := hp
  have ZS : Hid (Sorted A zs) := hz
  have HJ0 : Hid (J0 = List.replicate A.length false) := hJ0
  have HNS : Hid (NS = nmsAt A zs A.length ∧ TX = txsAt A zs A.length) := hNS
  have hmm := @run_makeMap Ybaz.prog
  have RNH : Hid (∀ s ∈ ss, s.rd ≠ []) := hRN
  clear hRN
  clear hP E H O W nmi hvb hA hp hz hJ0 hNS m1 cB
  conv => arg 2; whnf
  refine wp_seq_k ?_
  intro Ka hKa
  go_upto_region 89 with fail
  obtain ⟨bM, hbM⟩ : ∃ z, z = wr.heap.size := ⟨_, rfl⟩
  obtain ⟨W1, hW1⟩ : ∃ z : World, z = wr.alloc (.map #[] 0) := ⟨_, rfl⟩
  rw [← hW1] at cBa
  rw [← hW1, ← hbM] at PA ⊢
  clear hmm hW1 hbM
  rename_i Kz hKz _ _
  have HKz : Hid _ := hKz
  clear hKz
  go_wp2_with fail
  clear cBa
  refine wp_loopC [none, none, none, none, none, none, none, none, none, none, none, none, none, none, none, none, none, none, none, none, none, none, none, none, none, none, none, none, none, none, none, none, none, none, none, none, none, none, none, none, none, none, some none, some none, some none, some none, some none, some none, none, some none, some none, some none, some none, some none, some none, none, none, none, none, none, none, none, none, none, none, none, none, none, none, none, none, none, none, none, none, none, none, none, none, none, none, none, none, none, none, none, none, none, none, none, none, none, none, none, none, none, none, none, none, none, none, none, none, none, none, none, none, none, none, none, none, none, none, none, none, none, none, none, none, none, none, none, none, none, none, none, none, none, none, none, none, none, none, none, none, none, none, none, none, none, none, none, none, none, none, none, none, none, none, none, none, none, none, none, none, none, none, none, none, none, none, none, none, none, none, none, none, none, none, none, none, none, none, none, none, none, none, none, none, none, none, none, none, none, none, none, none, none, none, none, none, none, none, none, none, none, none, none, none, none, none, none, none, none, none, none, none, none, none, none, none, none, none, none, none, none, none, none, none, none, none, none, none, none, none, none, none, none, none, none, none, none, none, none, none, none, none, none, none, none, none, none, none, none, none, none, none, none, none, none, none, none, none, none, none, none, none, none, none, none, none, none, none, none, none, none, none, none, none, none, none, none, none, none, none, none, none, none, none, none, none, none, none, none, none, none, none, none, none, none, none, none, none, none, none, none, none, none, none, none, none, none, none, none, none, none, none, none, none, none, none, none, none, none, none, none, none, none, none, none, none, none, none, none, none, none, none, none, none, none, none, none, none, none, none, none, none, none, none, none, none, none, none, none, none, none, none, none, none, none, none, none, none, none, none, none, none, none, none, none, none, none, none, none, none, none, none, none, none, none, none, none, none, none, none, none, none, none, none, none, none, none, none, none, none, none, none, none, none, none, none, none, none, none, none, none, none, none, none, none, none, none, none, none, none, none, none, none, none, none, none, none, none, none, none, none, none, none, none, none, none, none, none, none, none, none, none, none, none, some (some false), some none, some none, some none, some none, some none, some none, some none, some none, some none, some none, some none, some none, some none, some none, some none, some none, some none, some none, some none, some none, some none, some none, some none, some none, some none, some none, some none, some none, some none, some none, some none, some none, some none, some none, some none, some none, some none, some none, some none, some none, some none, some none, some none, some none, some none, some none, some none, some none, some none, some none, some none, some none, some none, some none, some none, some none, some none, some none, some none, some none, some none, some none, some none, some none, some none, some none, some none, some none, some none, some none, none, none, none, none, none, none, none] (fun n9 t429 _ wr => ∃ (s : Nat) (g : GG) (G : List (List Nat)) (fa : List Int) (wait : Nat → Option Nat) (s1 k1 e1 : Nat), s ≤ hs.length ∧ n9 = hs.length - s ∧ t429 = .int .i64 s ∧ Pcs w wr (LE w R.top hs.length cap A fC nV fV bF zs bN NS g G J0 sg ss og os TX NM bO om sm T ++ [([bA], IntsAt bA ss.length fa)] ++ [([bM], fun z => MapAt z (ik .i64) bM (fun m => (wait m).map (ik .i64)))]) ∧ FA hs F A zs vars vers ss s1 k1 e1 fa wait ∧ GA hs A zs G0 s 0 (-1) G) hs.length (.int .i64 0) undef rfl ⟨0, g, G0, List.replicate ss.length (-1), (fun _ => none), 0, 0, 0, by omega, by omega, rfl, PA.out, FA.start ss, GA.start EE.out.lenG⟩ ?_
  intro n9 u9' x9 y9 wr J9 K9 hrel hJ9 hK9
  obtain ⟨s, g, G, fa, wait, s1, k1, e1, hs1, rfl, rfl, h1, h2, h3⟩ := hrel
  clear PA
  have HJ9 : Hid _ := hJ9
  have P9 : Hid _ := h1
  have FH : Hid _ := h2
  have GH : Hid _ := h3
  clear hJ9 h1 h2 h3
  dsimp only [fillC, Nat.reduceAdd]
  by_cases hlts : s < hs.length
  · as_aux_lemma =>
    obtain ⟨l, hl⟩ := has_at hs hlts
    have L3 : Hid (hs[s]? = some l) := hl
    clear hl
    go_upto_if 430 with fail
    rename_i Kc hKc
    have HKc : Hid _ := hKc
    clear hKc
    go_wp2_with fail
    refine HKc.out _ _ ?_
    refine wp_seq_k ?_
    intro Kd hKd
    have HKd : Hid _ := hKd
    clear hKd
    refine wp_cutC [none, none, none, none, none, none, none, none, none, none, none, none, none, none, none, none, none, none, none, none, none, none, none, none, none, none, none, none, none, none, none, none, none, none, none, none, none, none, none, none, none, none, some none, some none, some none, some none, some none, some none, none, some none, some none, some none, some none, some none, some none, none, none, none, none, none, none, none, none, none, none, none, none, none, none, none, none, none, none, none, none, none, none, none, none, none, none, none, none, none, none, none, none, none, none, none, none, none, none, none, none, none, none, none, none, none, none, none, none, none, none, none, none, none, none, none, none, none, none, none, none, none, none, none, none, none, none, none, none, none, none, none, none, none, none, none, none, none, none, none, none, none, none, none, none, none, none, none, none, none, none, none, none, none, none, none, none, none, none, none, none, none, none, none, none, none, none, none, none, none, none, none, none, none, none, none, none, none, none, none, none, none, none, none, none, none, none, none, none, none, none, none, none, none, none, none, none, none, none, none, none, none, none, none, none, none, none, none, none, none, none, none, none, none, none, none, none, none, none, none, none, none, none, none, none, none, none, none, none, none, none, none, none, none, none, none, none, none, none, none, none, none, none, none, none, none, none, none, none, none, none, none, none, none, none, none, none, none, none, none, none, none, none, none, none, none, none, none, none, none, none, none, none, none, none, none, none, none, none, none, none, none, none, none, none, none, none, none, none, none, none, none, none, none, none, none, none, none, none, none, none, none, none, none, none, none, none, none, none, none, none, none, none, none, none, none, none, none, none, none, none, none, none, none, none, none, none, none, none, none, none, none, none, none, none, none, none, none, none, none, none, none, none, none, none, none, none, none, none, none, none, none, none, none, none, none, none, none, none, none, none, none, none, none, none, none, none, none, none, none, none, none, none, none, none, none, none, none, none, none, none, none, none, none, none, none, none, none, none, none, none, none, none, none, none, none, none, none, none, none, none, none, none, none, none, none, none, none, none, none, none, none, none, none, none, none, none, none, none, none, none, none, none, none, none, none, none, none, none, none, none, none, none, none, none, none, none, some none, some none, some none, some none, some none, some none, some none, some none, some none, some none, some none, some none, some none, some none, some none, some none, some none, some none, some none, some none, some none, some none, some none, some none, some none, some none, some none, some none, some none, some none, some none, some none, some none, some none, some none, some none, some none, some none, some none, some none, some none, some none, some none, some none, some none, some none, some none, some none, some none, some none, some none, some none, some none, some none, some none, some none, some none, some none, some none, some none, some none, some none, some none, some none, some none, some none, some none, some none, none, none, none, none, none, none, none, none] (fun _ _ wc => ∃ (g : GG) (G : List (List Nat)) (fa : List Int) (wait : Nat → Option Nat) (s1 k1 e1 : Nat), Pcs w wc (LE w R.top hs.length cap A fC nV fV bF zs bN NS g G J0 sg ss og os TX NM bO om sm T ++ [([bA], IntsAt bA ss.length fa)] ++ [([bM], fun z => MapAt z (ik .i64) bM (fun m => (wait m).map (ik .i64)))]) ∧ FA hs F A zs vars vers ss s1 k1 e1 fa wait ∧ GA hs A zs G0 (s + 1) 0 (-1) G) (fun J K' hJ hK => ses18 w R hs cap A fC nV fV bF zs bN NS J0 sg ss og os TX NM bO om sm T vars vers F c0 G0 EE.out H'.out O'.out WW.out HAR.out h12 ZP.out NI.out HVB.out hc0 g G fa wait s1 k1 e1 bA bM s l L3.out wr P9.out FH.out GH.out J K' _ hJ hK) ?_
    intro u8' x8 y8 wc hcut
    obtain ⟨g, G, fa, wait, s1, k1, e1, h1, h2, h3⟩ := hcut
    clear P9 FH GH
    have P9 : Hid _ := h1
    have FH : Hid _ := h2
    have GH : Hid _ := h3
    clear h1 h2 h3
    dsimp only [fillC, Nat.reduceAdd]
    refine HKd.out _ _ ?_
    go_wp2_with fail
    refine Met.intro ?_
    refine HJ9.out _ _ ?_
    refine EndC.of (hs.length - (s + 1)) (.int .i64 ((s : Int) + 1)) undef ?_ (by omega) ?_
    · rfl
    exact ⟨s + 1, g, G, fa, wait, s1, k1, e1, by omega, rfl, by go_num, P9.out, FH.out, GH.out⟩
  · as_aux_lemma =>
    have hs2 : s = hs.length := by omega
    rw [hs2] at GH
    go_wp2_with fail
    refine HKz.out _ _ ?_
    exact end117T w R hs cap A fC nV fV bF zs bN NS J0 sg ss og os TX NM bO om sm T vars vers F c0 G0 EE.out H'.out O'.out WW.out HAR.out h12 ZP.out NI.out HVB.out hc0 hw0 ZS.out HJ0.out HNS.out h90 RNH.out g G fa wait s1 k1 e1 bA bM wr P9.out FH.out GH.out
set_option maxHeartbeats 16000000 in
set_option maxRecDepth 100000 in
theorem tail82T {u0 u1 u3 u4 u5 u6 u7 u8 u9 u10 u11 u12 u13 u14 u15 u16 u17 u21 u22 u23 u26 u27 u28 u29 u30 u31 u32 u33 u34 u35 u36 u37 u38 u39 u40 u41 u42 u43 u44 u45 u46 u47 u48 u49 u50 u51 u52 u53 u54 u55 u56 u57 u58 u59 u60 u61 u62 u63 u64 u65 u66 u67 u68 u69 u70 u71 u72 u73 u74 u75 u76 u77 u78 u79 u80 u81 u82 u83 u84 u85 u86 u87 u88 u89 u90 u91 u92 u93 u94 u95 u96 u97 u98 u99 u100 u101 u102 u103 u104 u105 u106 u107 u108 u109 u110 u111 u112 u113 u114 u115 u116 u117 u118 u119 u120 u121 u122 u123 u124 u125 u126 u127 u128 u129 u130 u131 u132 u133 u134 u135 u136 u137 u138 u139 u140 u141 u142 u143 u144 u145 u146 u147 u148 u149 u150 u151 u152 u153 u154 u155 u156 u157 u158 u159 u160 u161 u162 u163 u164 u165 u166 u167 u168 u169 u170 u171 u172 u173 u174 u175 u176 u177 u178 u179 u180 u181 u182 u183 u184 u185 u186 u187 u188 u189 u190 u191 u192 u193 u194 u195 u196 u197 u198 u199 u200 u201 u202 u203 u204 u205 u206 u207 u208 u209 u210 u211 u212 u213 u214 u215 u216 u217 u218 u219 u220 u221 u222 u223 u224 u225 u226 u227 u228 u229 u230 u231 u232 u233 u234 u235 u236 u237 u238 u239 u240 u241 u242 u243 u244 u245 u246 u247 u248 u249 u250 u251 u252 u253 u254 u255 u256 u257 u258 u259 u260 u261 u262 u263 u264 u265 u266 u267 u268 u269 u270 u271 u272 u273 u274 u275 u276 u277 u278 u279 u280 u281 u282 u283 u284 u285 u286 u287 u288 u289 u290 u291 u292 u293 u294 u295 u296 u297 u298 u299 u300 u301 u302 u303 u304 u305 u306 u307 u308 u309 u310 u311 u312 u313 u314 u315 u316 u317 u318 u319 u320 u321 u322 u323 u324 u325 u326 u327 u328 u329 u330 u331 u332 u333 u334 u335 u336 u337 u338 u339 u340 u341 u342 u343 u344 u345 u346 u347 u348 u349 u350 u351 u352 u353 u354 u355 u356 u357 u358 u359 u360 u361 u362 u363 u364 u365 u366 u367 u368 u369 u370 u371 u372 u373 u374 u375 u376 u377 u378 u379 u380 u381 u382 u383 u384 u385 u386 u387 u388 u389 u390 u391 u392 u393 u394 u395 u396 u397 u398 u399 u400 u401 u402 u403 u404 u405 u406 u407 u408 u409 u410 u411 u412 u413 u414 u415 u416 u417 u418 u419 u420 u421 u422 u423 u424 u425 u426 u427 u428 u429 u430 u431 u432 u433 u434 u435 u436 u437 u438 u439 u440 u441 u442 u443 u444 u445 u446 u447 u448 u449 u450 u451 u452 u453 u454 u455 u456 u457 u458 u459 u460 u461 u462 u463 u464 u465 u466 u467 u468 u469 u470 u471 u472 u473 u474 u475 u476 u477 u478 u479 u480 u481 u482 u483 u484 u485 u486 u487 u488 u489 u490 u491 u492 u493 u494 u495 u496 u497 u498 u499 u500 u501 u502 u503 u504 u505 u506 : Value} (w : World) (R : HR) (hs : List (List Tx)) (cap : Nat) (A : List Rk) (fC : List Nat) (nV : Nat) (fV : List Nat) (bF : Nat) (zs : List Nat) (bN : Nat) (NS : List (List UInt8)) (J0 : List Bool) (sg : SG) (ss : List Sr) (og : OG) (os : List Ob) (TX : List (Nat × Nat)) (NM : Nat × Nat → Option Nat) (bO : Nat) (om sm : Nat → Option Nat) (T : List Nat) (vars vers : List Nat) (F : Nat → Option Wr) (c0 : Nat) (G0 : List (List Nat)) (E : EI hs F A zs NM A.length 0 om sm vars vers os ss G0 c0) (H : HistE w R hs) (O : HOk hs) (W : WF hs F) (hA : A = rksAll 0 hs) (h12 : A.length ≤ 12) (hp : zs.Perm (List.range A.length)) (nmi : NMI A zs A.length NM) (hvb : ∀ s k e x, At hs s k e x → x.v < 900 ∧ x.x < 900) (hc0 : c0 ≤ 100000) (hw0 : wt G0 ≤ 60000) (hz : Sorted A zs) (hJ0 : J0 = List.replicate A.length false) (hNS : NS = nmsAt A zs A.length ∧ TX = txsAt A zs A.length) (h90 : hs.length < 90) (hRN : ∀ s ∈ ss, s.rd ≠ []) (g : GG) (wr : World) (hP : Pcs w wr (LE w R.top hs.length cap A fC nV fV bF zs bN NS g G0 J0 sg ss og os TX NM bO om sm T)) : c82.wp Ybaz.prog (bodyPost Ybaz.prog Ybaz.f14 (NspPostT w hs F)) ⟨[u0, u1, .pointer (some ⟨w.heap.size, 0, none⟩), u3, u4, u5, u6, u7, u8, u9, u10, u11, u12, u13, u14, u15, u16, u17, .pointer (some ⟨bN + 1, 0, none⟩), .slice (some ⟨bN + 2, 0, none⟩) A.length A.length, .map (some (bN + 3)), u21, u22, u23, .map (some bO), .map (some (bO + 1)), u26, u27, u28, u29, u30, u31, u32, u33, u34, u35, u36, u37, u38, u39, u40, u41, u42, u43, u44, u45, u46, u47, u48, u49, u50, u51, u52, u53, u54, u55, u56, u57, u58, u59, u60, u61, u62, u63, u64, u65, u66, u67, u68, u69, u70, u71, u72, u73, u74, u75, u76, u77, u78, u79, u80, u81, u82, u83, u84, u85, u86, u87, u88, u89, u90, u91, u92, u93, u94, u95, u96, u97, u98, u99, u100, u101, u102, u103, u104, u105, u106, u107, u108, u109, u110, u111, u112, u113, u114, u115, u116, u117, u118, u119, u120, u121, u122, u123, u124, u125, u126, u127, u128, u129, u130, u131, u132, u133, u134, u135, u136, u137, u138, u139, u140, u141, u142, u143, u144, u145, u146, u147, u148, u149, u150, u151, u152, u153, u154, u155, u156, u157, u158, u159, u160, u161, u162, u163, u164, u165, u166, u167, u168, u169, u170, u171, u172, u173, u174, u175, u176, u177, u178, u179, u180, u181, u182, u183, u184, u185, u186, u187, u188, u189, u190, u191, u192, u193, u194, u195, u196, u197, u198, u199, u200, u201, u202, u203, u204, u205, u206, u207, u208, u209, u210, u211, u212, u213, u214, u215, u216, u217, u218, u219, u220, u221, u222, u223, u224, u225, u226, u227, u228, u229, u230, u231, u232, u233, u234, u235, u236, u237, u238, u239, u240, u241, u242, u243, u244, u245, u246, u247, u248, u249, u250, u251, u252, u253, u254, u255, u256, u257, u258, u259, u260, u261, u262, u263, u264, u265, u266, u267, u268, u269, u270, u271, u272, u273, u274, u275, u276, u277, u278, u279, u280, u281, u282, u283, u284, u285, u286, u287, u288, u289, u290, u291, u292, u293, u294, u295, u296, u297, u298, u299, u300, u301, u302, u303, u304, u305, u306, u307, u308, u309, u310, u311, u312, u313, u314, u315, u316, u317, u318, u319, u320, u321, u322, u323, u324, u325, u326, u327, u328, u329, u330, u331, u332, u333, u334, u335, u336, u337, u338, u339, u340, u341, u342, u343, u344, u345, u346, u347, u348, u349, u350, u351, u352, u353, u354, u355, u356, u357, u358, u359, u360, u361, u362, u363, u364, u365, u366, u367, u368, u369, u370, u371, u372, u373, u374, u375, u376, u377, u378, u379, u380, u381, u382, u383, u384, u385, u386, u387, u388, u389, u390, u391, u392, u393, u394, u395, u396, u397, u398, u399, u400, u401, u402, u403, u404, u405, u406, u407, u408, u409, u410, u411, u412, u413, u414, u415, u416, u417, u418, u419, u420, u421, u422, u423, u424, u425, u426, u427, u428, u429, u430, u431, u432, u433, u434, u435, u436, u437, u438, u439, u440, u441, u442, u443, u444, u445, u446, u447, u448, u449, u450, u451, u452, u453, u454, u455, u456, u457, u458, u459, u460, u461, u462, u463, u464, u465, u466, u467, u468, u469, u470, u471, u472, u473, u474, u475, u476, u477, u478, u479, u480, u481, u482, u483, u484, u485, u486, u487, u488, u489, u490, u491, u492, u493, u494, u495, u496, u497, u498, u499, u500, u501, u502, u503, u504, u505, u506].toArray, []⟩ wr := by
  have hfs := E.fewS hvb
  have PG : Poly (bN + 1) bN bF A.length g G0 J0 sg ss og os wr := hP.mem (i := 5) rfl
  have d4 : wr.cell? ⟨bN + 1, 4, none⟩ = some (.slice sg.a ss.length sg.c) := (PG.cell (j := 4) rfl).1
  have hm := mkInts.made ss.length ss.length (Nat.le_refl _) (by omega) (by decide)
  have PA : Hid (Pcs w (wr.alloc (.cells (zeros (.int .i64 0) ss.length).toArray 3)) (LE w R.top hs.length cap A fC nV fV bF zs bN NS g G0 J0 sg ss og os TX NM bO om sm T ++ [([wr.heap.size], IntsAt wr.heap.size ss.length (List.replicate ss.length 0))])) := hP.add (Upd.alloc [] _ _) (by simp) [wr.heap.size] _ (IntsAt.made wr ss.length (by omega)) (IntsAt.keeps _ _ _) (by simp) (by simp)
  have EE : Hid _ := E
  have H' : Hid _ := H
  have O' : Hid _ := O
  have WW : Hid _ := W
  have NI : Hid _ := nmi
  have HVB : Hid (∀ s k e x, At hs s k e x → x.v < 900 ∧ x.x < 900) := hvb
  have HAR : Hid (A = rksAll 0 hs) := hA
  have ZP : Hid (zs.Perm (List.range A.length)) := hp
  have ZS : Hid (Sorted A zs) := hz
  have HJ0 : Hid (J0 = List.replicate A.length false) := hJ0
  have HNS : Hid (NS = nmsAt A zs A.length ∧ TX = txsAt A zs A.length) := hNS
  have RNH : Hid (∀ s ∈ ss, s.rd ≠ []) := hRN
  clear hRN
  clear hP E H O W nmi hvb hA hp hz hJ0 hNS PG
  conv => arg 2; whnf
  refine wp_seq_k ?_
  intro Ka hKa
  go_upto_region 83 with fail
  obtain ⟨bA, hbA⟩ : ∃ z, z = wr.heap.size := ⟨_, rfl⟩
  obtain ⟨W1, hW1⟩ : ∃ z : World, z = wr.alloc (.cells (zeros (.int .i64 0) ss.length).toArray 3) := ⟨_, rfl⟩
  rw [← hW1, ← hbA] at PA ⊢
  clear hm hW1 hbA d4
  rename_i Kz hKz _ _
  have HKz : Hid _ := hKz
  clear hKz
  go_wp2_with fail
  refine wp_loopC [none, none, none, none, none, none, none, none, none, none, none, none, none, none, none, none, none, none, none, none, none, none, none, none, none, none, none, none, none, none, none, none, none, none, none, none, none, none, none, none, some none, none, none, none, none, none, none, none, none, none, none, none, none, none, none, none, none, none, none, none, none, none, none, none, none, none, none, none, none, none, none, none, none, none, none, none, none, none, none, none, none, none, none, none, none, none, none, none, none, none, none, none, none, none, none, none, none, none, none, none, none, none, none, none, none, none, none, none, none, none, none, none, none, none, none, none, none, none, none, none, none, none, none, none, none, none, none, none, none, none, none, none, none, none, none, none, none, none, none, none, none, none, none, none, none, none, none, none, none, none, none, none, none, none, none, none, none, none, none, none, none, none, none, none, none, none, none, none, none, none, none, none, none, none, none, none, none, none, none, none, none, none, none, none, none, none, none, none, none, none, none, none, none, none, none, none, none, none, none, none, none, none, none, none, none, none, none, none, none, none, none, none, none, none, none, none, none, none, none, none, none, none, none, none, none, none, none, none, none, none, none, none, none, none, none, none, none, none, none, none, none, none, none, none, none, none, none, none, none, none, none, none, none, none, none, none, none, none, none, none, none, none, none, none, none, none, none, none, none, none, none, none, none, none, none, none, none, none, none, none, none, none, none, none, none, none, none, none, none, none, none, none, none, none, none, none, none, none, none, none, none, none, none, none, none, none, none, none, none, none, none, none, none, none, none, none, none, none, none, none, none, none, none, none, none, none, none, none, none, none, none, none, none, none, none, none, none, none, none, none, none, none, none, none, none, none, none, none, none, none, none, none, none, none, none, none, none, none, none, none, none, none, none, none, none, none, none, none, none, none, none, none, none, none, none, none, none, none, none, none, none, none, none, none, none, none, none, none, none, none, none, none, none, none, none, none, none, none, none, none, none, none, none, none, none, none, none, none, none, none, none, none, none, none, none, none, none, none, some (some false), some none, some none, some none, some none, some none, some none, none, none, none, none, none, none, none, none, none, none, none, none, none, none, none, none, none, none, none, none, none, none, none, none, none, none, none, none, none, none, none, none, none, none, none, none, none, none, none, none, none, none, none, none, none, none, none, none, none, none, none, none, none, none, none, none, none, none, none, none, none, none, none, none, none, none, none, none, none, none, none, none, none, none, none, none, none, none, none, none, none, none] (fun n8 t418 _ wr => ∃ (k : Nat) (M : List Int), k ≤ ss.length ∧ n8 = ss.length - k ∧ t418 = .int .i64 k ∧ Pcs w wr (LE w R.top hs.length cap A fC nV fV bF zs bN NS g G0 J0 sg ss og os TX NM bO om sm T ++ [([bA], IntsAt bA ss.length M)]) ∧ M.length = ss.length ∧ M.take k = List.replicate k (-1)) ss.length (.int .i64 0) undef rfl ⟨0, _, by omega, by omega, rfl, PA.out, by simp, by simp⟩ ?_
  intro n8 u8' x8 y8 wr J8 K8 hrel hJ8 hK8
  obtain ⟨k, M, hk1, rfl, rfl, h1, h2, h3⟩ := hrel
  clear PA
  have HJ8 : Hid _ := hJ8
  have P9 : Hid _ := h1
  have ML : Hid (M.length = ss.length) := h2
  have HM : Hid (M.take k = List.replicate k (-1)) := h3
  clear hJ8 h1 h2 h3
  dsimp only [fillC, Nat.reduceAdd]
  by_cases hltk : k < ss.length
  · as_aux_lemma =>
    have IA : IntsAt bA ss.length M wr := P9.out.mem (i := 11) rfl
    obtain ⟨v0, hv0⟩ := has_at M (k := k) (by rw [ML.out]; exact hltk)
    obtain ⟨cm, zm⟩ := IA.get hv0
    have PB : Hid (Pcs w (wr.setCell ⟨bA, k, none⟩ (.int .i64 (-1))) (LE w R.top hs.length cap A fC nV fV bF zs bN NS g G0 J0 sg ss og os TX NM bO om sm T ++ [([bA], IntsAt bA ss.length (M.set k (-1)))])) := P9.out.put (i := 11) rfl (Upd.store _ _ _ _) (IA.set k (-1)) (IntsAt.keeps _ _ _) (fun y hy => ⟨.inl hy, by simp at hy; subst hy; have := World.block_lt_of_cell? _ _ cm; simpa [World.setCell] using this⟩) (by simp)
    clear IA hv0
    go_wp2_with fail
    refine Met.intro ?_
    refine HJ8.out _ _ ?_
    refine EndC.of (ss.length - (k + 1)) (.int .i64 ((k : Int) + 1)) undef ?_ (by omega) ?_
    · rfl
    refine ⟨k + 1, M.set k (-1), by omega, rfl, by go_num, PB.out, by simpa using ML.out, ?_⟩
    have := ML.out
    rw [List.take_add_one, List.getElem?_set_self (by omega), List.take_set_of_le (Nat.le_refl _), HM.out, List.replicate_succ']
    rfl
  · as_aux_lemma =>
    have hk2 : k = ss.length := by omega
    have HM2 : Hid (M = List.replicate ss.length (-1)) := by
      have := HM.out
      rw [hk2, ← ML.out, List.take_length] at this
      rw [← ML.out]; exact this
    go_wp2_with fail
    refine HKz.out _ _ ?_
    rw [HM2.out] at P9
    exact tail88T w R hs cap A fC nV fV bF zs bN NS J0 sg ss og os TX NM bO om sm T vars vers F c0 G0 EE.out H'.out O'.out WW.out HAR.out h12 ZP.out NI.out HVB.out hc0 hw0 ZS.out HJ0.out HNS.out h90 RNH.out g bA wr P9.out
end Go.Proofs.YbulkctquGreatFmt

/-
  newSessionPolygraph: the nodes, and all that follows.
-/
import Derived.Test.YbulkctquGreatFmtNspM
import Derived.Test.YbulkctquGreatFmtFlh
import Derived.Test.YbulkctquGreatFmtLex
import Derived.Deep.RegionHeld3
import Derived.Test.YbulkctquGreatFmtNspO
import Derived.Test.YbulkctquGreatFmtNspYT
import Derived.Deep.RegionWith
import Derived.BigQuiet
import Derived.Deep.DeepCutAuto
namespace Go.Proofs.YbulkctquGreatFmt
open Go.ChangeShapes Go.WideShapes Go.ChangeAt Go.RowKit Go.Ord
set_option linter.unusedVariables false
attribute [-go_sem] Go.Builtin.append_ Go.Instr.buildSlice
noncomputable def c43 : Code := ((Ybaz.f14.body.bind (fromReg 43)).getD .skip)
set_option maxHeartbeats 16000000 in
set_option maxRecDepth 100000 in
theorem mid43T {u0 u3 u4 u5 u6 u7 u8 u9 u10 u11 u12 u13 u14 u16 u17 u21 u22 u23 u25 u26 u27 u28 u29 u30 u31 u32 u33 u34 u35 u36 u37 u38 u39 u40 u41 u42 u43 u44 u45 u46 u47 u48 u49 u50 u51 u52 u53 u54 u55 u56 u57 u58 u59 u60 u61 u62 u63 u64 u65 u66 u67 u68 u69 u70 u71 u72 u73 u74 u75 u76 u77 u78 u79 u80 u81 u82 u83 u84 u85 u86 u87 u88 u89 u90 u91 u92 u93 u94 u95 u96 u97 u98 u99 u100 u101 u102 u103 u104 u105 u106 u107 u108 u109 u110 u111 u112 u113 u114 u115 u116 u117 u118 u119 u120 u121 u122 u123 u124 u125 u126 u127 u128 u129 u130 u131 u132 u133 u134 u135 u136 u137 u138 u139 u140 u141 u142 u143 u144 u145 u146 u147 u148 u149 u150 u151 u152 u153 u154 u155 u156 u157 u158 u159 u160 u161 u162 u163 u164 u165 u166 u167 u168 u169 u170 u171 u172 u173 u174 u175 u176 u177 u178 u179 u180 u181 u182 u183 u184 u185 u186 u187 u188 u189 u190 u191 u192 u193 u194 u195 u196 u197 u198 u199 u200 u201 u202 u203 u204 u205 u206 u207 u208 u209 u210 u211 u212 u213 u214 u215 u216 u217 u218 u219 u220 u221 u222 u223 u224 u225 u226 u227 u228 u229 u230 u231 u232 u233 u234 u235 u236 u237 u238 u239 u240 u241 u242 u243 u244 u245 u246 u247 u248 u249 u250 u251 u252 u253 u254 u255 u256 u257 u258 u259 u260 u261 u262 u263 u264 u265 u266 u267 u268 u269 u270 u271 u272 u273 u274 u275 u276 u277 u278 u279 u280 u281 u282 u283 u284 u285 u286 u287 u288 u289 u290 u291 u292 u293 u294 u295 u296 u297 u298 u299 u300 u301 u302 u303 u304 u305 u306 u307 u308 u309 u310 u311 u312 u313 u314 u315 u316 u317 u318 u319 u320 u321 u322 u323 u324 u325 u326 u327 u328 u329 u330 u331 u332 u333 u334 u335 u336 u337 u338 u339 u340 u341 u342 u343 u344 u345 u346 u347 u348 u349 u350 u351 u352 u353 u354 u355 u356 u357 u358 u359 u360 u361 u362 u363 u364 u365 u366 u367 u368 u369 u370 u371 u372 u373 u374 u375 u376 u377 u378 u379 u380 u381 u382 u383 u384 u385 u386 u387 u388 u389 u390 u391 u392 u393 u394 u395 u396 u397 u398 u399 u400 u401 u402 u403 u404 u405 u406 u407 u408 u409 u410 u411 u412 u413 u414 u415 u416 u417 u418 u419 u420 u421 u422 u423 u424 u425 u426 u427 u428 u429 u430 u431 u432 u433 u434 u435 u436 u437 u438 u439 u440 u441 u442 u443 u444 u445 u446 u447 u448 u449 u450 u451 u452 u453 u454 u455 u456 u457 u458 u459 u460 u461 u462 u463 u464 u465 u466 u467 u468 u469 u470 u471 u472 u473 u474 u475 u476 u477 u478 u479 u480 u481 u482 u483 u484 u485 u486 u487 u488 u489 u490 u491 u492 u493 u494 u495 u496 u497 u498 u499 u500 u501 u502 u503 u504 u505 u506 : Value} (w : World) (R : HR) (hs : List (List Tx)) (cap : Nat) (A : List Rk) (fC : List Nat) (nV : Nat) (fV : List Nat) (bF : Nat) (zs : List Nat) (bN : Nat) (NM : Nat × Nat → Option Nat) (F : Nat → Option Wr) (b : Nat) (H : HistE w R hs) (O : HOk hs) (W : WF hs F) (RO : ROk hs) (MF0 : MapAt w (ik .u64) b (fun v => (F v).map Wr.val)) (hA : A = rksAll 0 hs) (h12 : A.length ≤ 12) (hp : zs.Perm (List.range A.length)) (nmi : NMI A zs A.length NM) (hvb : ∀ s k e x, At hs s k e x → x.v < 900 ∧ x.x < 900) (hV : nV ≤ 10000) (hz : Sorted A zs) (h90 : hs.length < 90) (g : GG) (wq : World) (hP : Pcs w wq (LD w R.top hs.length cap A fC nV fV bF zs bN (nmsAt A zs A.length) g (List.replicate A.length []) (List.replicate A.length false) (txsAt A zs A.length) NM)) (hkc : g.kc = kc0 bN bF A.length (.slice none 0 0) (.slice none 0 0)) :
    c43.wp Ybaz.prog (bodyPost Ybaz.prog Ybaz.f14 (NspPostT w hs F)) ⟨[u0, .map (some b), .pointer (some ⟨w.heap.size, 0, none⟩), u3, u4, u5, u6, u7, u8, u9, u10, u11, u12, u13, u14, .func (.func 29) #[] #[.pointer (some ⟨w.heap.size + 2, 0, none⟩)], u16, u17, .pointer (some ⟨bN + 1, 0, none⟩), .slice (some ⟨bN + 2, 0, none⟩) A.length A.length, .map (some (bN + 3)), u21, u22, u23, .map (some wq.heap.size), u25, u26, u27, u28, u29, u30, u31, u32, u33, u34, u35, u36, u37, u38, u39, u40, u41, u42, u43, u44, u45, u46, u47, u48, u49, u50, u51, u52, u53, u54, u55, u56, u57, u58, u59, u60, u61, u62, u63, u64, u65, u66, u67, u68, u69, u70, u71, u72, u73, u74, u75, u76, u77, u78, u79, u80, u81, u82, u83, u84, u85, u86, u87, u88, u89, u90, u91, u92, u93, u94, u95, u96, u97, u98, u99, u100, u101, u102, u103, u104, u105, u106, u107, u108, u109, u110, u111, u112, u113, u114, u115, u116, u117, u118, u119, u120, u121, u122, u123, u124, u125, u126, u127, u128, u129, u130, u131, u132, u133, u134, u135, u136, u137, u138, u139, u140, u141, u142, u143, u144, u145, u146, u147, u148, u149, u150, u151, u152, u153, u154, u155, u156, u157, u158, u159, u160, u161, u162, u163, u164, u165, u166, u167, u168, u169, u170, u171, u172, u173, u174, u175, u176, u177, u178, u179, u180, u181, u182, u183, u184, u185, u186, u187, u188, u189, u190, u191, u192, u193, u194, u195, u196, u197, u198, u199, u200, u201, u202, u203, u204, u205, u206, u207, u208, u209, u210, u211, u212, u213, u214, u215, u216, u217, u218, u219, u220, u221, u222, u223, u224, u225, u226, u227, u228, u229, u230, u231, u232, u233, u234, u235, u236, u237, u238, u239, u240, u241, u242, u243, u244, u245, u246, u247, u248, u249, u250, u251, u252, u253, u254, u255, u256, u257, u258, u259, u260, u261, u262, u263, u264, u265, u266, u267, u268, u269, u270, u271, u272, u273, u274, u275, u276, u277, u278, u279, u280, u281, u282, u283, u284, u285, u286, u287, u288, u289, u290, u291, u292, u293, u294, u295, u296, u297, u298, u299, u300, u301, u302, u303, u304, u305, u306, u307, u308, u309, u310, u311, u312, u313, u314, u315, u316, u317, u318, u319, u320, u321, u322, u323, u324, u325, u326, u327, u328, u329, u330, u331, u332, u333, u334, u335, u336, u337, u338, u339, u340, u341, u342, u343, u344, u345, u346, u347, u348, u349, u350, u351, u352, u353, u354, u355, u356, u357, u358, u359, u360, u361, u362, u363, u364, u365, u366, u367, u368, u369, u370, u371, u372, u373, u374, u375, u376, u377, u378, u379, u380, u381, u382, u383, u384, u385, u386, u387, u388, u389, u390, u391, u392, u393, u394, u395, u396, u397, u398, u399, u400, u401, u402, u403, u404, u405, u406, u407, u408, u409, u410, u411, u412, u413, u414, u415, u416, u417, u418, u419, u420, u421, u422, u423, u424, u425, u426, u427, u428, u429, u430, u431, u432, u433, u434, u435, u436, u437, u438, u439, u440, u441, u442, u443, u444, u445, u446, u447, u448, u449, u450, u451, u452, u453, u454, u455, u456, u457, u458, u459, u460, u461, u462, u463, u464, u465, u466, u467, u468, u469, u470, u471, u472, u473, u474, u475, u476, u477, u478, u479, u480, u481, u482, u483, u484, u485, u486, u487, u488, u489, u490, u491, u492, u493, u494, u495, u496, u497, u498, u499, u500, u501, u502, u503, u504, u505, u506].toArray, []⟩ (wq.alloc (.map #[] 0)) := by
  have H' : Hid _ := H
  have O' : Hid _ := O
  have WW : Hid _ := W
  have RO' : Hid _ := RO
  have MF : Hid _ := MF0
  have HAR : Hid (A = rksAll 0 hs) := hA
  have ZP : Hid (zs.Perm (List.range A.length)) := hp
  have NI : Hid _ := nmi
  have HVB : Hid (∀ s k e x, At hs s k e x → x.v < 900 ∧ x.x < 900) := hvb
  have hbw : b < w.heap.size := MF0.lt
  have ZS : Hid (Sorted A zs) := hz
  have P8 : Hid _ := LE.first hP hkc
  have hmm := @run_makeMap Ybaz.prog
  clear H O W RO MF0 hA hp nmi hvb
  clear hz hP hkc
  conv => arg 2; whnf
  go_upto_region 45 with fail
  clear hmm
  obtain ⟨W8, hW8⟩ : ∃ z : World, z = ((wq.alloc (.map #[] 0)).alloc (.map #[] 0)).alloc (.map #[] 0) := ⟨_, rfl⟩
  rw [← hW8] at P8 ⊢
  rw [show wq.heap.size + 1 + 1 = wq.heap.size + 2 from rfl]
  obtain ⟨bO, hbO⟩ : ∃ z, z = wq.heap.size := ⟨_, rfl⟩
  rw [← hbO] at P8 ⊢
  clear hW8 hbO
  obtain ⟨NS, hNS⟩ : ∃ z, z = nmsAt A zs A.length := ⟨_, rfl⟩
  obtain ⟨J0, hJ0⟩ : ∃ z, z = List.replicate A.length false := ⟨_, rfl⟩
  obtain ⟨TX, hTX⟩ : ∃ z, z = txsAt A zs A.length := ⟨_, rfl⟩
  rw [← hNS, ← hJ0, ← hTX] at P8
  have HNS : Hid (NS = nmsAt A zs A.length) := hNS
  have HJ0 : Hid (J0 = List.replicate A.length false) := hJ0
  have HTX : Hid (TX = txsAt A zs A.length) := hTX
  clear hNS hJ0 hTX
  rename_i Kz hKz _ _
  have HKz : Hid _ := hKz
  clear hKz
  go_wp2_with fail
  refine wp_loopC [none, none, none, none, none, none, none, none, none, none, none, none, none, none, none, none, none, none, none, none, none, none, none, none, none, none, none, some none, some none, none, some none, some none, some none, some none, some none, some none, some none, some none, some none, none, none, none, none, none, none, none, none, none, none, none, none, none, none, none, none, none, none, none, none, none, none, none, none, none, none, none, none, none, none, none, none, none, none, none, none, none, none, none, none, none, none, none, none, none, none, none, none, none, none, none, none, none, none, none, none, none, none, none, none, none, none, none, none, none, none, none, none, none, none, none, none, none, none, none, none, none, none, none, none, none, none, none, none, none, none, none, none, none, none, none, none, none, none, none, none, none, none, none, none, none, none, none, none, none, none, none, none, none, none, none, none, none, none, none, none, none, none, none, none, none, none, none, none, none, none, none, none, none, none, none, none, none, none, none, none, none, none, none, none, none, none, none, none, none, none, none, none, none, none, none, none, none, none, some (some false), some none, some none, some none, some none, some none, some none, some none, some none, some none, some none, some none, some none, some none, some none, some none, some none, some none, some none, some none, some none, some none, some none, some none, some none, some none, some none, some none, some none, some none, some none, some none, some none, some none, some none, some none, some none, some none, some none, some none, some none, some none, some none, some none, some none, some none, some none, some none, some none, some none, some none, some none, some none, some none, some none, some none, some none, some none, some none, some none, some none, some none, some none, some none, some none, some none, some none, some none, some none, some none, some none, some none, some none, some none, some none, some none, some none, some none, some none, some none, some none, some none, some none, some none, some none, some none, some none, some none, some none, some none, some none, some none, some none, some none, some none, some none, some none, some none, some none, some none, some none, some none, some none, some none, some none, some none, some none, some none, some none, some none, some none, some none, some none, some none, some none, some none, some none, some none, some none, some none, some none, some none, some none, some none, some none, some none, some none, some none, some none, some none, some none, some none, some none, some none, some none, some none, some none, some none, some none, some none, some none, some none, some none, some none, some none, some none, some none, some none, some none, some none, some none, some none, some none, some none, some none, some none, some none, some none, some none, some none, some none, some none, some none, some none, some none, some none, some none, some none, some none, some none, some none, some none, some none, some none, some none, some none, some none, some none, some none, some none, some none, some none, some none, some none, some none, some none, some none, some none, some none, some none, some none, some none, some none, some none, some none, some none, some none, some none, some none, some none, some none, some none, some none, some none, some none, some none, some none, some none, some none, some none, some none, some none, some none, some none, some none, some none, some none, none, none, none, none, none, none, none, none, none, none, none, none, none, none, none, none, none, none, none, none, none, none, none, none, none, none, none, none, none, none, none, none, none, none, none, none, none, none, none, none, none, none, none, none, none, none, none, none, none, none, none, none, none, none, none, none, none, none, none, none, none, none, none, none, none, none, none, none, none, none, none, none, none, none, none, none, none, none, none, none, none, none, none, none, none, none, none, none, none, none, none, none, none, none, none, none, none] (fun n6 t193 _ wr => ∃ (v : Nat) (g : GG) (G : List (List Nat)) (sg : SG) (ss : List Sr) (og : OG) (os : List Ob) (om sm : Nat → Option Nat) (vars vers T : List Nat), v ≤ A.length ∧ n6 = A.length - v ∧ t193 = .int .i64 v ∧ Pcs w wr (LE w R.top hs.length cap A fC nV fV bF zs bN NS g G J0 sg ss og os TX NM bO om sm T) ∧ EI hs F A zs NM v 0 om sm vars vers os ss G (v * 4000) ∧ (∀ s ∈ ss, s.rd ≠ [])) A.length (.int .i64 0) undef rfl ⟨0, _, _, _, _, _, _, _, _, [], [], [], by omega, by omega, rfl, P8.out, by rw [Nat.zero_mul]; exact EI.start hs F A zs NM, by simp⟩ ?_
  intro n6 u6' x6 y6 wr J6 K6 hrel hJ6 hK6
  obtain ⟨v, g, G, sg, ss, og, os, om, sm, vars, vers, T, hv1, rfl, rfl, h1, h2, h3⟩ := hrel
  clear P8
  have HJ6 : Hid _ := hJ6
  have P9 : Hid _ := h1
  have E9 : Hid _ := h2
  have RNH : Hid (∀ s ∈ ss, s.rd ≠ []) := h3
  clear hJ6 h1 h2 h3
  dsimp only [fillC, Nat.reduceAdd]
  by_cases hltv : v < A.length
  · as_aux_lemma =>
    go_upto_if 194 with fail
    rename_i Kc hKc
    have HKc : Hid _ := hKc
    clear hKc
    go_wp2_with fail
    refine HKc.out _ _ ?_
    refine wp_seq_k ?_
    intro Kd hKd
    have HKd : Hid _ := hKd
    clear hKd
    refine wp_cutC [none, none, none, none, none, none, none, none, none, none, none, none, none, none, none, none, none, none, none, none, none, none, none, none, none, none, none, some none, some none, none, some none, some none, some none, some none, some none, some none, some none, some none, some none, none, none, none, none, none, none, none, none, none, none, none, none, none, none, none, none, none, none, none, none, none, none, none, none, none, none, none, none, none, none, none, none, none, none, none, none, none, none, none, none, none, none, none, none, none, none, none, none, none, none, none, none, none, none, none, none, none, none, none, none, none, none, none, none, none, none, none, none, none, none, none, none, none, none, none, none, none, none, none, none, none, none, none, none, none, none, none, none, none, none, none, none, none, none, none, none, none, none, none, none, none, none, none, none, none, none, none, none, none, none, none, none, none, none, none, none, none, none, none, none, none, none, none, none, none, none, none, none, none, none, none, none, none, none, none, none, none, none, none, none, none, none, none, none, none, none, none, none, none, none, none, none, none, none, none, none, some none, some none, some none, some none, some none, some none, some none, some none, some none, some none, some none, some none, some none, some none, some none, some none, some none, some none, some none, some none, some none, some none, some none, some none, some none, some none, some none, some none, some none, some none, some none, some none, some none, some none, some none, some none, some none, some none, some none, some none, some none, some none, some none, some none, some none, some none, some none, some none, some none, some none, some none, some none, some none, some none, some none, some none, some none, some none, some none, some none, some none, some none, some none, some none, some none, some none, some none, some none, some none, some none, some none, some none, some none, some none, some none, some none, some none, some none, some none, some none, some none, some none, some none, some none, some none, some none, some none, some none, some none, some none, some none, some none, some none, some none, some none, some none, some none, some none, some none, some none, some none, some none, some none, some none, some none, some none, some none, some none, some none, some none, some none, some none, some none, some none, some none, some none, some none, some none, some none, some none, some none, some none, some none, some none, some none, some none, some none, some none, some none, some none, some none, some none, some none, some none, some none, some none, some none, some none, some none, some none, some none, some none, some none, some none, some none, some none, some none, some none, some none, some none, some none, some none, some none, some none, some none, some none, some none, some none, some none, some none, some none, some none, some none, some none, some none, some none, some none, some none, some none, some none, some none, some none, some none, some none, some none, some none, some none, some none, some none, some none, some none, some none, some none, some none, some none, some none, some none, some none, some none, some none, some none, some none, some none, some none, some none, some none, some none, some none, some none, some none, some none, some none, some none, some none, some none, some none, some none, some none, some none, some none, some none, some none, some none, some none, none, none, none, none, none, none, none, none, none, none, none, none, none, none, none, none, none, none, none, none, none, none, none, none, none, none, none, none, none, none, none, none, none, none, none, none, none, none, none, none, none, none, none, none, none, none, none, none, none, none, none, none, none, none, none, none, none, none, none, none, none, none, none, none, none, none, none, none, none, none, none, none, none, none, none, none, none, none, none, none, none, none, none, none, none, none, none, none, none, none, none, none, none, none, none, none, none, none] (fun _ _ wc => ∃ (g : GG) (G : List (List Nat)) (sg : SG) (ss : List Sr) (og : OG) (os : List Ob) (om sm : Nat → Option Nat) (vars vers T : List Nat), Pcs w wc (LE w R.top hs.length cap A fC nV fV bF zs bN NS g G J0 sg ss og os TX NM bO om sm T) ∧ EI hs F A zs NM (v + 1) 0 om sm vars vers os ss G ((v + 1) * 4000) ∧ (∀ s ∈ ss, s.rd ≠ [])) (fun J K' hJ hK => nd11 w R hs cap A fC nV fV bF zs bN NS J0 TX NM bO F b H'.out O'.out WW.out RO'.out MF.out HAR.out h12 ZP.out NI.out HVB.out hV HTX.out g G sg ss og os om sm T vars vers v hltv wr P9.out E9.out RNH.out J K' _ hJ hK) ?_
    intro u8' x8 y8 wc hcut
    obtain ⟨g, G, sg, ss, og, os, om, sm, vars, vers, T, h1, h2, h3⟩ := hcut
    clear P9 E9 RNH
    have P9 : Hid _ := h1
    have E9 : Hid _ := h2
    have RNH : Hid (∀ s ∈ ss, s.rd ≠ []) := h3
    clear h1 h2 h3
    dsimp only [fillC, Nat.reduceAdd]
    refine HKd.out _ _ ?_
    go_wp2_with fail
    refine Met.intro ?_
    refine HJ6.out _ _ ?_
    refine EndC.of (A.length - (v + 1)) (.int .i64 ((v : Int) + 1)) undef ?_ (by omega) ?_
    · rfl
    exact ⟨v + 1, g, G, sg, ss, og, os, om, sm, vars, vers, T, by omega, rfl, by go_num, P9.out, E9.out, RNH.out⟩
  · as_aux_lemma =>
    have hv2 : v = A.length := by omega
    rw [hv2] at E9
    go_wp2_with fail
    refine HKz.out _ _ ?_
    exact tail82T w R hs cap A fC nV fV bF zs bN NS J0 sg ss og os TX NM bO om sm T vars vers F (A.length * 4000) G E9.out H'.out O'.out WW.out HAR.out h12 ZP.out NI.out HVB.out (by omega) (by have := E9.out.wtG; omega) ZS.out HJ0.out ⟨HNS.out, HTX.out⟩ h90 RNH.out g wr P9.out
end Go.Proofs.YbulkctquGreatFmt

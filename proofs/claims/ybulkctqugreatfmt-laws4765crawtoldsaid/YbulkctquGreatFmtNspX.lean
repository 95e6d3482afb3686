/-
  newSessionPolygraph: its end.
-/
import Derived.Test.YbulkctquGreatFmtNspM
import Derived.Test.YbulkctquGreatFmtOver
import Derived.Deep.RegionWith
import Derived.BigQuiet
import Derived.Deep.DeepCutAuto
namespace Go.Proofs.YbulkctquGreatFmt
open Go.ChangeShapes Go.WideShapes Go.ChangeAt Go.RowKit Go.Ord
set_option linter.unusedVariables false
attribute [-go_sem] Go.Builtin.append_ Go.Instr.buildSlice
/-- What newSessionPolygraph leaves; every source is read. -/
def NspPostR (w : World) (hs : List (List Tx)) (F : Nat → Option Wr) : Ending → World → Prop := fun r w' =>
  ∃ (A : List Rk) (zs : List Nat) (NM : Nat × Nat → Option Nat) (vars vers : List Nat) (os : List Ob) (ss : List Sr) (fa : List Int) (ows G : List (List Nat)) (J : List Bool) (bN bF : Nat) (g : GG) (sg : SG) (og : OG),
    r = .returned (.tuple #[.pointer (some ⟨bN + 1, 0, none⟩), .slice (some ⟨bN + 2, 0, none⟩) A.length A.length]) ∧ NP hs F A zs NM vars vers os ss fa ows G J ∧ Poly (bN + 1) bN bF A.length g G J sg ss og os w' ∧ NamesAt bN A.length (nmsAt A zs A.length) w' ∧ Below w.heap.size w w' ∧
      w.heap.size ≤ bN ∧ (∀ k ∈ polyFp (bN + 1) g sg og, w.heap.size ≤ k) ∧ bN ∉ polyFp (bN + 1) g sg og ∧ G.length < 100000 ∧ wt G < 1000000 ∧ os.length ≤ 900 ∧ ss.length ≤ 900 ∧ A.length ≤ 12 ∧ ∀ s ∈ ss, s.rd ≠ []
set_option maxHeartbeats 16000000 in
set_option maxRecDepth 100000 in
theorem end117 {u0 u1 u2 u3 u4 u5 u6 u7 u8 u9 u10 u11 u12 u13 u14 u15 u16 u17 u20 u21 u22 u23 u24 u25 u26 u27 u28 u29 u30 u31 u32 u33 u34 u35 u36 u37 u38 u40 u41 u42 u43 u44 u45 u46 u47 u48 u49 u50 u51 u52 u53 u54 u55 u56 u57 u58 u59 u60 u61 u62 u63 u64 u65 u66 u67 u68 u69 u70 u71 u72 u73 u74 u75 u76 u77 u78 u79 u80 u81 u82 u83 u84 u85 u86 u87 u88 u89 u90 u91 u92 u93 u94 u95 u96 u97 u98 u99 u100 u101 u102 u103 u104 u105 u106 u107 u108 u109 u110 u111 u112 u113 u114 u115 u116 u117 u118 u119 u120 u121 u122 u123 u124 u125 u126 u127 u128 u129 u130 u131 u132 u133 u134 u135 u136 u137 u138 u139 u140 u141 u142 u143 u144 u145 u146 u147 u148 u149 u150 u151 u152 u153 u154 u155 u156 u157 u158 u159 u160 u161 u162 u163 u164 u165 u166 u167 u168 u169 u170 u171 u172 u173 u174 u175 u176 u177 u178 u179 u180 u181 u182 u183 u184 u185 u186 u187 u188 u189 u190 u191 u192 u193 u194 u195 u196 u197 u198 u199 u200 u201 u202 u203 u204 u205 u206 u207 u208 u209 u210 u211 u212 u213 u214 u215 u216 u217 u218 u219 u220 u221 u222 u223 u224 u225 u226 u227 u228 u229 u230 u231 u232 u233 u234 u235 u236 u237 u238 u239 u240 u241 u242 u243 u244 u245 u246 u247 u248 u249 u250 u251 u252 u253 u254 u255 u256 u257 u258 u259 u260 u261 u262 u263 u264 u265 u266 u267 u268 u269 u270 u271 u272 u273 u274 u275 u276 u277 u278 u279 u280 u281 u282 u283 u284 u285 u286 u287 u288 u289 u290 u291 u292 u293 u294 u295 u296 u297 u298 u299 u300 u301 u302 u303 u304 u305 u306 u307 u308 u309 u310 u311 u312 u313 u314 u315 u316 u317 u318 u319 u320 u321 u322 u323 u324 u325 u326 u327 u328 u329 u330 u331 u332 u333 u334 u335 u336 u337 u338 u339 u340 u341 u342 u343 u344 u345 u346 u347 u348 u349 u350 u351 u352 u353 u354 u355 u356 u357 u358 u359 u360 u361 u362 u363 u364 u365 u366 u367 u368 u369 u370 u371 u372 u373 u374 u375 u376 u377 u378 u379 u380 u381 u382 u383 u384 u385 u386 u387 u388 u389 u390 u391 u392 u393 u394 u395 u396 u397 u398 u399 u400 u401 u402 u403 u404 u405 u406 u407 u408 u409 u410 u411 u412 u413 u414 u415 u416 u417 u418 u419 u420 u421 u422 u423 u424 u425 u426 u427 u428 u429 u430 u431 u432 u433 u434 u435 u436 u437 u438 u439 u440 u441 u442 u443 u444 u445 u446 u447 u448 u449 u450 u451 u452 u453 u454 u455 u456 u457 u458 u459 u460 u461 u462 u463 u464 u465 u466 u467 u468 u469 u470 u471 u472 u473 u474 u475 u476 u477 u478 u479 u480 u481 u482 u483 u484 u485 u486 u487 u488 u489 u490 u491 u492 u493 u494 u495 u496 u497 u498 u499 u500 u501 u502 u503 u504 u505 u506 : Value} (w : World) (R : HR) (hs : List (List Tx)) (cap : Nat) (A : List Rk) (fC : List Nat) (nV : Nat) (fV : List Nat) (bF : Nat) (zs : List Nat) (bN : Nat) (NS : List (List UInt8)) (J0 : List Bool) (sg : SG) (ss : List Sr) (og : OG) (os : List Ob) (TX : List (Nat × Nat)) (NM : Nat × Nat → Option Nat) (bO : Nat) (om sm : Nat → Option Nat) (T : List Nat) (vars vers : List Nat) (F : Nat → Option Wr) (c0 : Nat) (G0 : List (List Nat)) (E : EI hs F A zs NM A.length 0 om sm vars vers os ss G0 c0) (H : HistE w R hs) (O : HOk hs) (W : WF hs F) (hA : A = rksAll 0 hs) (h12 : A.length ≤ 12) (hp : zs.Perm (List.range A.length)) (nmi : NMI A zs A.length NM) (hvb : ∀ s k e x, At hs s k e x → x.v < 900 ∧ x.x < 900) (hc0 : c0 ≤ 100000) (hw0 : wt G0 ≤ 60000) (hz : Sorted A zs) (hJ0 : J0 = List.replicate A.length false) (hNS : NS = nmsAt A zs A.length) (h90 : hs.length < 90) (hRN : ∀ s ∈ ss, s.rd ≠ [])
    (g : GG) (G : List (List Nat)) (fa : List Int) (wait : Nat → Option Nat) (s1 k1 e1 bA bM : Nat) (wr : World)
    (hP : Pcs w wr (LE w R.top hs.length cap A fC nV fV bF zs bN NS g G J0 sg ss og os TX NM bO om sm T ++ [([bA], IntsAt bA ss.length fa)] ++ [([bM], fun z => MapAt z (ik .i64) bM (fun m => (wait m).map (ik .i64)))])) (hFA : FA hs F A zs vars vers ss s1 k1 e1 fa wait) (hGA : GA hs A zs G0 hs.length 0 (-1) G) : c117.wp Ybaz.prog (bodyPost Ybaz.prog Ybaz.f14 (NspPostR w hs F)) ⟨[u0, u1, u2, u3, u4, u5, u6, u7, u8, u9, u10, u11, u12, u13, u14, u15, u16, u17, .pointer (some ⟨bN + 1, 0, none⟩), .slice (some ⟨bN + 2, 0, none⟩) A.length A.length, u20, u21, u22, u23, u24, u25, u26, u27, u28, u29, u30, u31, u32, u33, u34, u35, u36, u37, u38, .slice (some ⟨bA, 0, none⟩) ss.length ss.length, u40, u41, u42, u43, u44, u45, u46, u47, u48, u49, u50, u51, u52, u53, u54, u55, u56, u57, u58, u59, u60, u61, u62, u63, u64, u65, u66, u67, u68, u69, u70, u71, u72, u73, u74, u75, u76, u77, u78, u79, u80, u81, u82, u83, u84, u85, u86, u87, u88, u89, u90, u91, u92, u93, u94, u95, u96, u97, u98, u99, u100, u101, u102, u103, u104, u105, u106, u107, u108, u109, u110, u111, u112, u113, u114, u115, u116, u117, u118, u119, u120, u121, u122, u123, u124, u125, u126, u127, u128, u129, u130, u131, u132, u133, u134, u135, u136, u137, u138, u139, u140, u141, u142, u143, u144, u145, u146, u147, u148, u149, u150, u151, u152, u153, u154, u155, u156, u157, u158, u159, u160, u161, u162, u163, u164, u165, u166, u167, u168, u169, u170, u171, u172, u173, u174, u175, u176, u177, u178, u179, u180, u181, u182, u183, u184, u185, u186, u187, u188, u189, u190, u191, u192, u193, u194, u195, u196, u197, u198, u199, u200, u201, u202, u203, u204, u205, u206, u207, u208, u209, u210, u211, u212, u213, u214, u215, u216, u217, u218, u219, u220, u221, u222, u223, u224, u225, u226, u227, u228, u229, u230, u231, u232, u233, u234, u235, u236, u237, u238, u239, u240, u241, u242, u243, u244, u245, u246, u247, u248, u249, u250, u251, u252, u253, u254, u255, u256, u257, u258, u259, u260, u261, u262, u263, u264, u265, u266, u267, u268, u269, u270, u271, u272, u273, u274, u275, u276, u277, u278, u279, u280, u281, u282, u283, u284, u285, u286, u287, u288, u289, u290, u291, u292, u293, u294, u295, u296, u297, u298, u299, u300, u301, u302, u303, u304, u305, u306, u307, u308, u309, u310, u311, u312, u313, u314, u315, u316, u317, u318, u319, u320, u321, u322, u323, u324, u325, u326, u327, u328, u329, u330, u331, u332, u333, u334, u335, u336, u337, u338, u339, u340, u341, u342, u343, u344, u345, u346, u347, u348, u349, u350, u351, u352, u353, u354, u355, u356, u357, u358, u359, u360, u361, u362, u363, u364, u365, u366, u367, u368, u369, u370, u371, u372, u373, u374, u375, u376, u377, u378, u379, u380, u381, u382, u383, u384, u385, u386, u387, u388, u389, u390, u391, u392, u393, u394, u395, u396, u397, u398, u399, u400, u401, u402, u403, u404, u405, u406, u407, u408, u409, u410, u411, u412, u413, u414, u415, u416, u417, u418, u419, u420, u421, u422, u423, u424, u425, u426, u427, u428, u429, u430, u431, u432, u433, u434, u435, u436, u437, u438, u439, u440, u441, u442, u443, u444, u445, u446, u447, u448, u449, u450, u451, u452, u453, u454, u455, u456, u457, u458, u459, u460, u461, u462, u463, u464, u465, u466, u467, u468, u469, u470, u471, u472, u473, u474, u475, u476, u477, u478, u479, u480, u481, u482, u483, u484, u485, u486, u487, u488, u489, u490, u491, u492, u493, u494, u495, u496, u497, u498, u499, u500, u501, u502, u503, u504, u505, u506].toArray, []⟩ wr := by
  have hfs := E.fewS hvb
  have hfo := E.fewO
  have bO1 := E.boundO hp
  have bS1 := E.boundS hp nmi
  have hG0 := hGA.wtI
  have hGl := hGA.len
  have PG : Poly (bN + 1) bN bF A.length g G J0 sg ss og os wr := hP.mem (i := 5) rfl
  have K1 : Hid _ := init_any wr (bN + 1) g G J0 PG.gr (some ⟨bN, 0, none⟩) A.length A.length (PG.cell (j := 0) rfl).1 og os (PG.cell (j := 5) rfl).1 PG.ob PG.apartO (by omega) (by omega) (fun o ho => by obtain ⟨q1, q2, q3, q4, _⟩ := bO1 o ho; exact ⟨q1, q2, q3, q4⟩) (by omega) (by omega)
  have P9 : Hid _ := hP
  have EE : Hid _ := E
  have FH : Hid _ := hFA
  have GH : Hid _ := hGA
  have H' : Hid _ := H
  have O' : Hid _ := O
  have WW : Hid _ := W
  have NI : Hid _ := nmi
  have HVB : Hid (∀ s k e x, At hs s k e x → x.v < 900 ∧ x.x < 900) := hvb
  have HAR : Hid (A = rksAll 0 hs) := hA
  have ZP : Hid (zs.Perm (List.range A.length)) := hp
  have ZS : Hid (Sorted A zs) := hz
  have HJ0 : Hid (J0 = List.replicate A.length false) := hJ0
  have HNS : Hid (NS = nmsAt A zs A.length) := hNS
  have BO : Hid (∀ o ∈ os, (∀ t ∈ o.ini, t < A.length) ∧ (∀ t ∈ o.wr, t < A.length) ∧ o.ini.length ≤ A.length ∧ o.wr.length ≤ A.length ∧ o.wr.Nodup) := bO1
  have BS : Hid (∀ s ∈ ss, s.ob < os.length ∧ s.wr < A.length ∧ (∀ t ∈ s.rd, t < A.length) ∧ s.rd.length ≤ A.length) := bS1
  have PGH : Hid _ := PG
  have RNH : Hid (∀ s ∈ ss, s.rd ≠ []) := hRN
  clear hRN
  clear hP E hFA hGA H O W nmi hvb hA hp hz hJ0 hNS bO1 bS1 PG
  conv => arg 2; whnf
  go_wp2_with fail
  refine Calls.mono K1.out ?_
  rintro e' w2 ⟨rfl, g2, r1, r2⟩
  obtain ⟨p1, p2, p3⟩ := PGH.out.grew r1 r2
  have PB : Hid (Pcs w w2 (LE w R.top hs.length cap A fC nV fV bF zs bN NS g2 (initG G os) (initJ J0 os) sg ss og os TX NM bO om sm T ++ [([bA], IntsAt bA ss.length fa)] ++ [([bM], fun z => MapAt z (ik .i64) bM (fun m => (wait m).map (ik .i64)))])) := P9.out.put (i := 5) rfl p2 p1 (Poly.keeps _ _ _ _ _ _ _ _ _ _ _) p3 p1.nd
  have s12 := initG_size os G (fun o ho => by obtain ⟨_, _, q3, q4, _⟩ := BO.out o ho; omega)
  have l12 := initG_len os G (fun o ho => by obtain ⟨_, _, q3, q4, _⟩ := BO.out o ho; omega)
  have g12 : G.length ≤ (initG G os).length := initG_ge os G
  have K2 : Hid _ := over39 w2 (bN + 1) g2 (initG G os) (initJ J0 os) p1.gr (some ⟨bN, 0, none⟩) A.length A.length (p1.cell (j := 0) rfl).1 og os (p1.cell (j := 5) rfl).1 p1.ob p1.apartO sg ss (p1.cell (j := 4) rfl).1 p1.sr p1.apartS bA ss.length fa FH.out.len (fun k i hk => by
    have IA : IntsAt bA ss.length fa w2 := PB.out.mem (i := 11) rfl
    refine ⟨(IA.get hk).1, ?_⟩
    rcases FH.out.faI k i hk with q | ⟨y, q, q2⟩
    · omega
    · have := q2.1; omega) (by omega) (by omega) BS.out (fun o ho => by obtain ⟨_, q2, q3, q4, q5⟩ := BO.out o ho; exact ⟨q2, q5, q4⟩) (by omega) (by omega) (by omega)
  have hfl : fa.length = ss.length := FH.out.len
  have PGH2 : Hid _ := p1
  rw [hfl] at K2
  clear r1 r2 p1 p2 p3 PGH K1 P9 hfl
  go_wp2_with fail
  refine Calls.mono K2.out ?_
  rintro e' w3 ⟨rfl, g3, ows, ow, r1, r2⟩
  obtain ⟨p1, p2, p3⟩ := PGH2.out.grew r1 r2
  have PC : Hid (Pcs w w3 (LE w R.top hs.length cap A fC nV fV bF zs bN NS g3 (overG (initG G os) ss ows) (overJ (initJ J0 os) ss ows) sg ss og os TX NM bO om sm T ++ [([bA], IntsAt bA ss.length fa)] ++ [([bM], fun z => MapAt z (ik .i64) bM (fun m => (wait m).map (ik .i64)))])) := PB.out.put (i := 5) rfl p2 p1 (Poly.keeps _ _ _ _ _ _ _ _ _ _ _) p3 p1.nd
  have OWH : Hid _ := ow
  clear r1 r2 p1 p2 p3 PGH2 K2 PB ow
  go_wp2_with fail
  go_ret2
  have l13 := overG_len ss ows (initG G os) (fun s hs' => by obtain ⟨_, _, _, q⟩ := BS.out s hs'; omega) (fun r hr => by obtain ⟨k, hk⟩ := List.getElem?_of_mem hr; have := (OWH.out.row k r hk).1; omega)
  have s13 := overG_size ss ows (initG G os) (fun s hs' => by obtain ⟨_, _, _, q⟩ := BS.out s hs'; omega) (fun r hr => by obtain ⟨k, hk⟩ := List.getElem?_of_mem hr; have := (OWH.out.row k r hk).1; omega)
  have nm4 : NamesAt bN A.length NS w3 := PC.out.mem (i := 4) rfl
  rw [HNS.out] at nm4
  refine ⟨A, zs, NM, vars, vers, os, ss, fa, ows, overG (initG G os) ss ows, overJ (initJ J0 os) ss ows, bN, bF, g3, sg, og, rfl, ?_, PC.out.mem (i := 5) rfl, nm4, PC.out.bel, PC.out.ge (i := 4) rfl bN (by simp), PC.out.ge (i := 5) rfl, fun hm => PC.out.apart (i := 4) (j := 5) rfl rfl (by decide) bN (by simp) hm, by omega, by omega, by omega, by omega, h12, RNH.out⟩
  refine ⟨HAR.out, ZP.out, ZS.out, NI.out, ⟨om, sm, c0, G0, G, EE.out, GH.out, rfl, by rw [HJ0.out], hw0⟩, FH.out.faI, OWH.out⟩
end Go.Proofs.YbulkctquGreatFmt

/-
  The raw law: the loops for the misread that is wanted, and the end.
-/
import Derived.Test.YbulkctquGreatFmtCfP
import Derived.Test.YbulkctquGreatFmtMo9
import Derived.Test.YbulkctquGreatFmtMoP
import Derived.Test.YbulkctquGreatFmtMrP
import Derived.Test.YbulkctquGreatFmtHr
import Derived.Deep.RegionWith
import Derived.BigQuiet
import Derived.Laws.Rows
import Derived.Deep.DeepCutAuto
import Derived.Lib.SliceRun
namespace Go.Proofs.YbulkctquGreatFmt
open Go.ChangeShapes Go.WideShapes Go.ChangeAt Go.RowKit Go.Ord
set_option linter.unusedVariables false
attribute [-go_sem] Go.Builtin.append_ Go.Instr.buildSlice Go.Instr.build

/-- What the law has found so far: nothing; or the first read of an uncommitted version. -/
def WS (hs : List (List Tx)) (F : Nat → Option Wr) (bW s k e : Nat) (fd : Bool) (w : World) : Prop :=
  (fd = false ∧ RC hs F s k e ∧ Blk w bW 59 #[.int .i64 0, .int .i64 0, .int .i64 0, .int .u8 0, .int .i64 0, .int .i64 0, .int .i64 0]) ∨
  (fd = true ∧ ∃ (s0 k0 e0 : Nat) (q : Wr), Unc hs F s0 k0 e0 q ∧ RC hs F s0 k0 e0 ∧ Blk w bW 59 #[.int .i64 s0, .int .i64 k0, .int .i64 e0, .int .u8 0, .int .i64 q.s, .int .i64 q.k, .int .i64 q.e])
theorem WS.keep {hs : List (List Tx)} {F : Nat → Option Wr} {bW s k e s' k' e' : Nat} {fd : Bool} {w w' : World} (h : WS hs F bW s k e fd w) (hu : Upd [] w w') (hr : RC hs F s k e → RC hs F s' k' e') : WS hs F bW s' k' e' fd w' := by
  rcases h with ⟨h1, h2, h3⟩ | ⟨h1, s0, k0, e0, q, h2, h3, h4⟩
  · exact .inl ⟨h1, hr h2, h3.keep hu (by simp)⟩
  · exact .inr ⟨h1, s0, k0, e0, q, h2, h3, h4.keep hu (by simp)⟩
theorem Unc.same {hs : List (List Tx)} {F : Nat → Option Wr} {s k e s' k' e' : Nat} {q q' : Wr} (h : Unc hs F s k e q) (hr : RC hs F s k e) (h' : Unc hs F s' k' e' q') (hr' : RC hs F s' k' e') : s = s' ∧ k = k' ∧ e = e' ∧ q = q' := by
  have n1 : ¬ Bef s k e s' k' e' := fun hb => hr s' k' e' q' hb h'
  have n2 : ¬ Bef s' k' e' s k e := fun hb => hr' s k e q hb h
  have : s = s' ∧ k = k' ∧ e = e' := by unfold Bef at n1 n2; omega
  obtain ⟨rfl, rfl, rfl⟩ := this
  refine ⟨rfl, rfl, rfl, ?_⟩
  obtain ⟨v, a1, a2, a3, a4, a5, a6⟩ := h
  obtain ⟨v', b1, b2, b3, b4, b5, b6⟩ := h'
  have := a1.same b1
  subst this
  rw [a5] at b5
  injection b5
theorem Unc.notAll {hs : List (List Tx)} {F : Nat → Option Wr} {s k e : Nat} {q : Wr} (h : Unc hs F s k e q) (hr : RC hs F hs.length 0 0) : False := by
  obtain ⟨v, a1, _⟩ := id h
  obtain ⟨l, t, h1, _⟩ := a1
  refine hr s k e q ?_ h
  have := (List.getElem?_eq_some_iff.mp h1).1
  unfold Bef; omega
theorem Wz.look {w : World} {a : Option Addr} {c : Nat} {fp : List Nat} {ws : List Wz} (S : Sl w 61 5 a ws.length c fp (ws.flatMap Wz.cells)) {k : Nat} {z : Wz} (hz : ws[k]? = some z) : ∃ b, a = some ⟨b, 0, none⟩ ∧ b ∈ fp ∧ w.cell? ⟨b, k * 5 + 2, none⟩ = some (.int .i64 z.s) ∧ w.cell? ⟨b, k * 5 + 3, none⟩ = some (.int .i64 z.k) ∧ w.cell? ⟨b, k * 5 + 4, none⟩ = some (.int .i64 z.e) := by
  have hk := (List.getElem?_eq_some_iff.mp hz).1
  obtain ⟨g, e1, e2, _, e3, _⟩ := S.has (by omega)
  exact ⟨g, e1, by rw [e2]; simp, by rw [e3 _ (by omega), flat3 Wz.cells 5 (fun _ => rfl) ws k 2 z hz (by omega)]; rfl, by rw [e3 _ (by omega), flat3 Wz.cells 5 (fun _ => rfl) ws k 3 z hz (by omega)]; rfl, by rw [e3 _ (by omega), flat3 Wz.cells 5 (fun _ => rfl) ws k 4 z hz (by omega)]; rfl⟩
theorem hi59 : (Ybaz.prog.info? 59).map (·.size) = some 7 := by kernel_rfl
/-- What the verdict says. -/
def VD (wr : World) (hs : List (List Tx)) (F : Nat → Option Wr) (bW : Nat) (ser : Bool) (mp : Option Addr) (vC vK : SV) (K : Prop) : Prop :=
  (∃ (bM : Nat) (a b c f a' b' c' : Int), mp = some ⟨bM, 0, none⟩ ∧ ser = false ∧ Blk wr bM 59 #[.int .i64 a, .int .i64 b, .int .i64 c, .int .u8 f, .int .i64 a', .int .i64 b', .int .i64 c'] ∧ bM ≠ bW ∧
    ((∃ (s k e : Nat) (q : Wr), Unc hs F s k e q ∧ RC hs F s k e ∧ a = s ∧ b = k ∧ c = e ∧ f = 0 ∧ a' = q.s ∧ b' = q.k ∧ c' = q.e) ∨ RC hs F hs.length 0 0)) ∨
  (mp = none ∧ ser = false ∧ RC hs F hs.length 0 0) ∨
  (mp = none ∧ ser = true ∧ RC hs F hs.length 0 0 ∧ vC = ⟨none, 0, 0⟩ ∧ vK = ⟨none, 0, 0⟩ ∧ K)
noncomputable def q54 : Code := ((Ybaz.f3.body.bind (fromHead 54)).getD .skip)
set_option maxHeartbeats 16000000 in
set_option maxRecDepth 100000 in
theorem want54 {u0 u1 u2 u3 u4 u5 u6 u7 u9 u10 u11 u12 u13 u14 u15 u16 u17 u19 u21 u22 u23 u26 u27 u28 u29 u30 u31 u32 u33 u34 u35 u36 u37 u38 u39 u40 u41 u42 u43 u44 u45 u46 u47 u48 u49 u50 u51 u52 u53 u54 u55 u56 u57 u58 u59 u60 u61 u62 u63 u64 u65 u66 u67 u68 u69 u70 u71 u72 u73 u74 u75 u76 u77 u78 u79 u80 u81 u82 u83 u84 u85 u86 u87 u88 u89 u90 u91 u92 u93 u94 u95 u96 u97 u98 u99 u100 u101 u102 u103 u104 u105 u106 u107 u108 u109 u110 u111 u112 u113 u114 u115 u116 u117 u118 u119 u120 u121 u122 u123 u124 u125 u126 u127 u128 u129 u130 u131 u132 u133 u134 u135 u136 u137 u138 u139 u140 u141 u142 u143 u144 u145 u146 u147 u148 u149 u150 u151 u152 u153 u154 u155 u156 u157 u158 u159 u160 u161 u162 u163 u164 u165 u166 u167 u168 u169 u170 u171 u172 u173 u174 u175 u176 u177 u178 u179 u180 u181 u182 u183 u184 u185 u186 u187 u188 u189 u190 u191 u192 u193 u194 u195 u196 u197 u198 u199 u200 u201 u202 u203 u204 u205 u206 u207 u208 u209 u210 u211 u212 u213 u214 u215 u216 u217 u218 u219 u220 u221 u222 u223 u224 u225 u226 u227 u228 u229 u230 u231 u232 u233 u234 u235 u236 u237 u238 u239 u240 u241 u242 u243 u244 u245 u246 u247 u248 u249 u250 u251 u252 u253 u254 u255 u256 u257 u258 u259 u260 u261 u262 u263 u264 u265 u266 u267 u268 u269 u270 u271 u272 u273 u274 u275 u276 u277 u278 u279 u280 u281 u282 u283 u284 u285 u286 u287 u288 u289 u290 u291 u292 u293 u294 u295 u296 u297 u298 u299 u300 u301 u302 u303 u304 u305 u306 u307 u308 u309 u310 u311 u312 u313 u314 u315 u316 u317 u318 u319 u320 u321 u322 u323 u324 u325 u326 u327 : Value} (w wH : World) (R : HR) (hs : List (List Tx)) (ta : Option Addr) (cap : Nat) (HT0 : hs ≠ [] → ta = some ⟨R.top, 0, none⟩) (H : HistE wH R hs) (O : HOk hs) (F : Nat → Option Wr) (W : WF hs F) (ws : List Wz) (sa : Option Addr) (sc : Nat) (fp : List Nat) (M : MI hs hs.length 0 0 ws) (hwl : ws.length ≤ 900) (wr : World) (SW : Sl wr 61 5 sa ws.length sc fp (ws.flatMap Wz.cells)) (B0 : Below w.heap.size w wr) (BH : Below wH.heap.size wH wr) (bH bV bW : Nat) (cH : wr.cell? ⟨bH, 0, none⟩ = some (.slice ta hs.length cap)) (vA vB : SV) (ser : Bool) (vO : SV) (mp : Option Addr) (vC vR vK : SV) (kV : Blk wr bV 47 #[.slice vA.a vA.n vA.c, .slice vB.a vB.n vB.c, .bool ser, .slice vO.a vO.n vO.c, .pointer mp, .slice vC.a vC.n vC.c, .slice vR.a vR.n vR.c, .slice vK.a vK.n vK.c]) (kW : Blk wr bW 59 #[.int .i64 0, .int .i64 0, .int .i64 0, .int .u8 0, .int .i64 0, .int .i64 0, .int .i64 0]) (n1 : bV ≠ bW) (n2 : bH ≠ bW) (n3 : bW ∉ fp) (hgW : w.heap.size ≤ bW) (hgH : wH.heap.size ≤ bW) (V : VD wr hs F bW ser mp vC vK (∀ w1, Upd [bW] wr w1 → Calls Ybaz.prog 10 #[.agg #[.slice ta hs.length cap], .slice vO.a vO.n vO.c] w1 (fun e w' => e = .returned (.bool true) ∧ Below w1.heap.size w1 w'))) :
    q54.wp Ybaz.prog (bodyPost Ybaz.prog Ybaz.f3 (fun e w2 => e = .returned (.bool true) ∧ Below w.heap.size w w2)) ⟨[u0, u1, u2, u3, u4, u5, u6, u7, .pointer (some ⟨bH, 0, none⟩), u9, u10, u11, u12, u13, u14, u15, u16, u17, .slice sa ws.length sc, u19, .pointer (some ⟨bV, 0, none⟩), u21, u22, u23, .bool false, .pointer (some ⟨bW, 0, none⟩), u26, u27, u28, u29, u30, u31, u32, u33, u34, u35, u36, u37, u38, u39, u40, u41, u42, u43, u44, u45, u46, u47, u48, u49, u50, u51, u52, u53, u54, u55, u56, u57, u58, u59, u60, u61, u62, u63, u64, u65, u66, u67, u68, u69, u70, u71, u72, u73, u74, u75, u76, u77, u78, u79, u80, u81, u82, u83, u84, u85, u86, u87, u88, u89, u90, u91, u92, u93, u94, u95, u96, u97, u98, u99, u100, u101, u102, u103, u104, u105, u106, u107, u108, u109, u110, u111, u112, u113, u114, u115, u116, u117, u118, u119, u120, u121, u122, u123, u124, u125, u126, u127, u128, u129, u130, u131, u132, u133, u134, u135, u136, u137, u138, u139, u140, u141, u142, u143, u144, u145, u146, u147, u148, u149, u150, u151, u152, u153, u154, u155, u156, u157, u158, u159, u160, u161, u162, u163, u164, u165, u166, u167, u168, u169, u170, u171, u172, u173, u174, u175, u176, u177, u178, u179, u180, u181, u182, u183, u184, u185, u186, u187, u188, u189, u190, u191, u192, u193, u194, u195, u196, u197, u198, u199, u200, u201, u202, u203, u204, u205, u206, u207, u208, u209, u210, u211, u212, u213, u214, u215, u216, u217, u218, u219, u220, u221, u222, u223, u224, u225, u226, u227, u228, u229, u230, u231, u232, u233, u234, u235, u236, u237, u238, u239, u240, u241, u242, u243, u244, u245, u246, u247, u248, u249, u250, u251, u252, u253, u254, u255, u256, u257, u258, u259, u260, u261, u262, u263, u264, u265, u266, u267, u268, u269, u270, u271, u272, u273, u274, u275, u276, u277, u278, u279, u280, u281, u282, u283, u284, u285, u286, u287, u288, u289, u290, u291, u292, u293, u294, u295, u296, u297, u298, u299, u300, u301, u302, u303, u304, u305, u306, u307, u308, u309, u310, u311, u312, u313, u314, u315, u316, u317, u318, u319, u320, u321, u322, u323, u324, u325, u326, u327].toArray, []⟩ wr := by
  have HH : Hid _ := H
  have OH : Hid _ := O
  have WH : Hid _ := W
  have HT : Hid (hs ≠ [] → ta = some ⟨R.top, 0, none⟩) := HT0
  have MH : Hid _ := M
  have SWH : Hid (Sl wr 61 5 sa ws.length sc fp (ws.flatMap Wz.cells)) := SW
  have BB : Hid (Below w.heap.size w wr) := B0
  have BHH : Hid (Below wH.heap.size wH wr) := BH
  have KV : Hid (Blk wr bV 47 #[.slice vA.a vA.n vA.c, .slice vB.a vB.n vB.c, .bool ser, .slice vO.a vO.n vO.c, .pointer mp, .slice vC.a vC.n vC.c, .slice vR.a vR.n vR.c, .slice vK.a vK.n vK.c]) := kV
  have KW : Hid (Blk wr bW 59 #[.int .i64 0, .int .i64 0, .int .i64 0, .int .u8 0, .int .i64 0, .int .i64 0, .int .i64 0]) := kW
  have VH : Hid (VD wr hs F bW ser mp vC vK (∀ w1, Upd [bW] wr w1 → Calls Ybaz.prog 10 #[.agg #[.slice ta hs.length cap], .slice vO.a vO.n vO.c] w1 (fun e w' => e = .returned (.bool true) ∧ Below w1.heap.size w1 w'))) := V
  have CH : Hid (wr.cell? ⟨bH, 0, none⟩ = some (.slice ta hs.length cap)) := cH
  have hs9 := O.small
  have hb56 := bd56h
  have hb59 := bd59
  have HWB : Hid (∀ wx, Upd [bW] wr wx → HistE wx R hs) := fun wx hu => HH.out.below (BHH.out.trans (hu.below BHH.out.size (by simpa using hgH)))
  have hbW : bW < wr.heap.size := kW.lt
  have hbV : bV < wr.heap.size := kV.lt
  clear H O W HT0 M SW B0 BH kV kW V
  conv => arg 2; whnf
  go_wp2_with fail
  clear cH
  refine wp_loopC [none, none, none, none, none, none, none, none, none, none, none, none, none, none, none, none, none, none, none, none, none, none, none, none, some (some true), none, some none, some none, some none, some none, some none, some none, some none, none, none, none, none, none, none, none, none, none, none, none, none, none, none, none, none, none, none, none, none, none, none, none, none, none, none, none, none, none, none, none, none, none, none, none, none, none, none, none, none, none, none, none, none, none, none, none, none, none, none, none, none, none, none, none, none, none, none, none, none, none, none, none, none, none, none, none, none, none, none, none, none, none, none, none, none, none, none, none, none, none, none, none, none, none, none, none, none, none, none, none, none, none, none, none, none, none, none, none, none, none, none, none, none, none, none, none, none, none, none, none, none, none, none, none, none, none, none, none, none, none, none, none, none, none, none, none, none, none, none, none, none, none, none, none, none, none, none, none, none, none, none, none, none, none, none, none, none, none, none, none, none, none, none, none, none, none, none, none, none, none, none, none, none, none, none, none, none, none, none, none, none, none, none, none, none, none, none, none, none, none, none, none, none, none, none, none, some (some false), some none, some none, some none, some none, some none, some none, some none, some none, some none, some none, some none, some none, some none, some none, some none, some none, some none, some none, some none, some none, some none, some none, some none, some none, some none, some none, some none, some none, some none, some none, some none, some none, some none, some none, some none, some none, some none, some none, some none, some none, some none, some none, some none, some none, some none, some none, some none, some none, some none, some none, some none, some none, some none, some none, some none, some none, some none, some none, some none, some none, some none, some none, some none, some none, none, none, none, none, none, none, none, none, none, none, none, none, none, none, none, none, none, none, none, none, none, none, none, none, none, none, none, none, none, none, none, none, none, none, none, none, none, none, none, none, none, none, none] (fun nn tx ty wx => ∃ (c : Nat) (fd : Bool), c ≤ hs.length ∧ nn = hs.length - c ∧ tx = .int .i64 c ∧ ty = .bool fd ∧ Upd [bW] wr wx ∧ WS hs F bW c 0 0 fd wx) hs.length (.int .i64 0) (.bool false) rfl ⟨0, false, by omega, by omega, rfl, rfl, Upd.refl _ _, .inl ⟨rfl, RC.start, KW.out⟩⟩ ?_
  intro n6 uu x6 y6 wx J6 K6 hrel hJ6 hK6
  obtain ⟨s, fd, hs1, rfl, rfl, rfl, h5, h6⟩ := hrel
  have HJ6 : Hid _ := hJ6
  have UX : Hid (Upd [bW] wr wx) := h5
  have XS : Hid (WS hs F bW s 0 0 fd wx) := h6
  clear hJ6 h5 h6
  dsimp only [fillC, Nat.reduceAdd]
  by_cases hlts : s < hs.length
  · as_aux_lemma =>
    obtain ⟨l, hl⟩ := has_at hs hlts
    have hta : ta = some ⟨R.top, 0, none⟩ := HT.out (by intro h; rw [h] at hlts; simp at hlts)
    subst hta
    have L3 : Hid (hs[s]? = some l) := hl
    obtain ⟨o1, c1, c2⟩ := (HWB.out wx UX.out).base.ses s l hl
    have C2 : Hid (l ≠ [] → o1 = some ⟨R.ses s, 0, none⟩) := c2
    have hl9 := OH.out.small2 l (List.mem_of_getElem? hl)
    clear hl c2
    go_wp2_with fail
    clear c1
    refine wp_loopC [none, none, none, none, none, none, none, none, none, none, none, none, none, none, none, none, none, none, none, none, none, none, none, none, some (some true), none, none, none, some none, some none, some none, some none, some none, none, none, none, none, none, none, none, none, none, none, none, none, none, none, none, none, none, none, none, none, none, none, none, none, none, none, none, none, none, none, none, none, none, none, none, none, none, none, none, none, none, none, none, none, none, none, none, none, none, none, none, none, none, none, none, none, none, none, none, none, none, none, none, none, none, none, none, none, none, none, none, none, none, none, none, none, none, none, none, none, none, none, none, none, none, none, none, none, none, none, none, none, none, none, none, none, none, none, none, none, none, none, none, none, none, none, none, none, none, none, none, none, none, none, none, none, none, none, none, none, none, none, none, none, none, none, none, none, none, none, none, none, none, none, none, none, none, none, none, none, none, none, none, none, none, none, none, none, none, none, none, none, none, none, none, none, none, none, none, none, none, none, none, none, none, none, none, none, none, none, none, none, none, none, none, none, none, none, none, none, none, none, none, none, none, none, none, none, none, none, none, none, none, none, some (some false), some none, some none, some none, some none, some none, some none, some none, some none, some none, some none, some none, some none, some none, some none, some none, some none, some none, some none, some none, some none, some none, some none, some none, some none, some none, some none, some none, some none, some none, some none, some none, some none, some none, some none, some none, some none, some none, some none, some none, some none, some none, some none, some none, some none, some none, some none, some none, some none, some none, some none, some none, some none, some none, some none, some none, some none, none, none, none, none, none, none, none, none, none, none, none, none, none, none, none, none, none, none, none, none, none, none, none, none, none, none, none, none, none, none, none, none, none, none, none, none, none, none, none, none, none, none, none, none] (fun nn tx ty wx => ∃ (c : Nat) (fd : Bool), c ≤ l.length ∧ nn = l.length - c ∧ tx = .int .i64 c ∧ ty = .bool fd ∧ Upd [bW] wr wx ∧ WS hs F bW s c 0 fd wx) l.length (.int .i64 0) (.bool fd) rfl ⟨0, fd, by omega, by omega, rfl, rfl, UX.out, XS.out⟩ ?_
    intro n7 uv x7 y7 wy J7 K7 hrel hJ7 hK7
    obtain ⟨k, fe, hk1, rfl, rfl, rfl, h5, h6⟩ := hrel
    have HJ7 : Hid _ := hJ7
    have UY : Hid (Upd [bW] wr wy) := h5
    have YS : Hid (WS hs F bW s k 0 fe wy) := h6
    clear hJ7 h5 h6 UX XS
    dsimp only [fillC, Nat.reduceAdd]
    by_cases hltk : k < l.length
    · as_aux_lemma =>
      obtain ⟨t, ht⟩ := has_at l hltk
      have T3 : Hid (l[k]? = some t) := ht
      have ho1 : o1 = some ⟨R.ses s, 0, none⟩ := C2.out (by intro h; rw [h] at hltk; simp at hltk)
      subst ho1
      obtain ⟨o2, c3, c4⟩ := (HWB.out wy UY.out).base.evs s l k t L3.out ht
      have c5 := (HWB.out wy UY.out).base.com s l k t L3.out ht
      have C4 : Hid (t.evs ≠ [] → o2 = some ⟨R.evs s k, 0, none⟩) := c4
      have htl := OH.out.small3 l (List.mem_of_getElem? L3.out) t (List.mem_of_getElem? ht)
      clear c4 ht
      by_cases hsk : fe = true ∨ t.com = false
      · have gd : ∀ z : World, True := fun _ => trivial
        have YN : Hid (WS hs F bW s (k + 1) 0 fe (wy.alloc (.cells #[.slice o2 t.evs.length (R.ec s k), .bool t.com] 39))) := by
          rcases YS.out with ⟨h1, h2, h3⟩ | ⟨h1, s0, k0, e0, q, h2, h3, h4⟩
          · rcases hsk with h | h
            · rw [h1] at h; cases h
            · exact .inl ⟨h1, h2.skip L3.out T3.out h, h3.keep (Upd.alloc [] _ _) (by simp)⟩
          · exact .inr ⟨h1, s0, k0, e0, q, h2, h3, h4.keep (Upd.alloc [] _ _) (by simp)⟩
        cases hfe : fe with
        | true =>
          as_aux_lemma =>
          rw [hfe] at YN
          clear hsk
          go_wp2_with fail
          refine Met.intro ?_
          refine HJ7.out _ _ ?_
          refine EndC.of (l.length - (k + 1)) (.int .i64 (((k : Int) + 1) : Int)) (.bool true) ?_ (by omega) ?_
          · rfl
          exact ⟨k + 1, true, by omega, rfl, by go_num, rfl, UY.out.trans (Upd.alloc [] _ _) (by simp), YN.out⟩
        | false =>
          as_aux_lemma =>
          have hcm : t.com = false := by rcases hsk with h | h; rw [hfe] at h; cases h; exact h
          rw [hcm] at c5 YN
          rw [hfe] at YN
          clear hsk hcm
          go_wp2_with fail
          refine Met.intro ?_
          refine HJ7.out _ _ ?_
          refine EndC.of (l.length - (k + 1)) (.int .i64 (((k : Int) + 1) : Int)) (.bool false) ?_ (by omega) ?_
          · rfl
          exact ⟨k + 1, false, by omega, rfl, by go_num, rfl, UY.out.trans (Upd.alloc [] _ _) (by simp), YN.out⟩
      · as_aux_lemma =>
        have hfe : fe = false := by cases h : fe; rfl; exact absurd (.inl h) hsk
        have hcm : t.com = true := by cases h : t.com; exact absurd (.inr h) hsk; rfl
        have CM : Hid (Cm hs s k) := ⟨l, t, L3.out, T3.out, hcm⟩
        rw [hcm] at c5
        subst hfe
        clear hsk
        go_upto_region 61 with fail
        obtain ⟨b29, hb29⟩ : ∃ z, z = wy.heap.size := ⟨_, rfl⟩
        obtain ⟨W1, hW1⟩ : ∃ z : World, z = wy.alloc (.cells #[.slice o2 t.evs.length (R.ec s k), .bool true] 39) := ⟨_, rfl⟩
        have U1 : Hid (Upd [bW] wr W1) := by show Upd _ _ _; rw [hW1]; exact UY.out.trans (Upd.alloc [] _ _) (by simp)
        have x0 : W1.cell? ⟨b29, 0, none⟩ = some (.slice o2 t.evs.length (R.ec s k)) := by rw [hW1, hb29]; exact (Blk.new wy #[.slice o2 t.evs.length (R.ec s k), .bool true] 39).cell 0
        have S1 : Hid (WS hs F bW s k 0 false W1) := by show WS _ _ _ _ _ _ _ _; rw [hW1]; exact YS.out.keep (Upd.alloc [] _ _) (fun h => h)
        rw [← hW1, ← hb29]
        clear hW1 hb29 c3 c5 hcm
        go_wp2_with fail
        clear x0
        refine wp_loopC [none, none, none, none, none, none, none, none, none, none, none, none, none, none, none, none, none, none, none, none, none, none, none, none, some (some true), none, none, none, none, none, some none, some none, some none, none, none, none, none, none, none, none, none, none, none, none, none, none, none, none, none, none, none, none, none, none, none, none, none, none, none, none, none, none, none, none, none, none, none, none, none, none, none, none, none, none, none, none, none, none, none, none, none, none, none, none, none, none, none, none, none, none, none, none, none, none, none, none, none, none, none, none, none, none, none, none, none, none, none, none, none, none, none, none, none, none, none, none, none, none, none, none, none, none, none, none, none, none, none, none, none, none, none, none, none, none, none, none, none, none, none, none, none, none, none, none, none, none, none, none, none, none, none, none, none, none, none, none, none, none, none, none, none, none, none, none, none, none, none, none, none, none, none, none, none, none, none, none, none, none, none, none, none, none, none, none, none, none, none, none, none, none, none, none, none, none, none, none, none, none, none, none, none, none, none, none, none, none, none, none, none, none, none, none, none, none, none, none, none, none, none, none, none, none, none, none, none, none, none, none, none, none, none, none, none, none, none, none, none, none, none, none, none, some (some false), some none, some none, some none, some none, some none, some none, some none, some none, some none, some none, some none, some none, some none, some none, some none, some none, some none, some none, some none, some none, some none, some none, some none, some none, some none, some none, some none, some none, some none, some none, some none, some none, some none, some none, some none, some none, some none, some none, some none, some none, some none, none, none, none, none, none, none, none, none, none, none, none, none, none, none, none, none, none, none, none, none, none, none, none, none, none, none, none, none, none, none, none, none, none, none, none, none, none, none, none, none, none, none, none, none, none] (fun nn tx ty wx => ∃ (c : Nat) (fd : Bool), c ≤ t.evs.length ∧ nn = t.evs.length - c ∧ tx = .int .i64 c ∧ ty = .bool fd ∧ Upd [bW] wr wx ∧ WS hs F bW s k c fd wx) t.evs.length (.int .i64 0) (.bool false) rfl ⟨0, false, by omega, by omega, rfl, rfl, U1.out, S1.out⟩ ?_
        intro n8 uw x8 y8 wz J8 K8 hrel hJ8 hK8
        obtain ⟨e, ff, he1, rfl, rfl, rfl, h5, h6⟩ := hrel
        have HJ8 : Hid _ := hJ8
        have UZ : Hid (Upd [bW] wr wz) := h5
        have ZS : Hid (WS hs F bW s k e ff wz) := h6
        clear hJ8 h5 h6 U1 S1 UY YS
        dsimp only [fillC, Nat.reduceAdd]
        by_cases hlte : e < t.evs.length
        · as_aux_lemma =>
          obtain ⟨v, hv⟩ := has_at t.evs hlte
          have ho2 : o2 = some ⟨R.evs s k, 0, none⟩ := C4.out (by intro h; rw [h] at hlte; simp at hlte)
          subst ho2
          have HW := HWB.out wz UZ.out
          have a0 := HW.ev s l k t e v 0 _ L3.out T3.out hv rfl
          have a1 := HW.ev s l k t e v 1 _ L3.out T3.out hv rfl
          have a2 := HW.ev s l k t e v 2 _ L3.out T3.out hv rfl
          have a3 := HW.ev s l k t e v 3 _ L3.out T3.out hv rfl
          simp only [Nat.add_zero] at a0
          have hat : At hs s k e v := ⟨l, t, L3.out, T3.out, hv⟩
          have hkd := OH.out.kind _ _ _ _ hat
          clear HW hv
          by_cases hsk : ff = true ∨ v.k = 1 ∨ v.i = true
          · have ZN : Hid (WS hs F bW s k (e + 1) ff (wz.alloc (.cells #[.int .u8 v.k, .int .u64 v.x, .int .u64 v.v, .bool v.i] 37))) := by
              rcases ZS.out with ⟨h1, h2, h3⟩ | ⟨h1, s0, k0, e0, q, h2, h3, h4⟩
              · refine .inl ⟨h1, h2.step (fun q' ⟨v', g1, _, g3, g4, _⟩ => ?_), h3.keep (Upd.alloc [] _ _) (by simp)⟩
                have := g1.same hat
                subst this
                rcases hsk with h | h | h
                · rw [h1] at h; cases h
                · omega
                · rw [g4] at h; cases h
              · exact .inr ⟨h1, s0, k0, e0, q, h2, h3, h4.keep (Upd.alloc [] _ _) (by simp)⟩
            cases hff : ff with
            | true =>
              as_aux_lemma =>
              rw [hff] at ZN
              clear hsk hat hkd
              go_wp2_with fail
              refine Met.intro ?_
              refine HJ8.out _ _ ?_
              refine EndC.of (t.evs.length - (e + 1)) (.int .i64 (((e : Int) + 1) : Int)) (.bool true) ?_ (by omega) ?_
              · rfl
              exact ⟨e + 1, true, by omega, rfl, by go_num, rfl, UZ.out.trans (Upd.alloc [] _ _) (by simp), ZN.out⟩
            | false =>
              rw [hff] at ZN
              rcases hkd with hk | hk
              · as_aux_lemma =>
                have hvi : v.i = true := by rcases hsk with h | h | h; rw [hff] at h; cases h; omega; exact h
                rw [hk, hvi] at ZN
                rw [hk] at a0
                rw [hvi] at a3
                clear hsk hat hk hvi
                go_wp2_with fail
                refine Met.intro ?_
                refine HJ8.out _ _ ?_
                refine EndC.of (t.evs.length - (e + 1)) (.int .i64 (((e : Int) + 1) : Int)) (.bool false) ?_ (by omega) ?_
                · rfl
                exact ⟨e + 1, false, by omega, rfl, by go_num, rfl, UZ.out.trans (Upd.alloc [] _ _) (by simp), ZN.out⟩
              · as_aux_lemma =>
                rw [hk] at ZN a0
                clear hsk hat hk
                go_wp2_with fail
                refine Met.intro ?_
                refine HJ8.out _ _ ?_
                refine EndC.of (t.evs.length - (e + 1)) (.int .i64 (((e : Int) + 1) : Int)) (.bool false) ?_ (by omega) ?_
                · rfl
                exact ⟨e + 1, false, by omega, rfl, by go_num, rfl, UZ.out.trans (Upd.alloc [] _ _) (by simp), ZN.out⟩
          · as_aux_lemma =>
            have hff : ff = false := by cases h : ff; rfl; exact absurd (.inl h) hsk
            have hk : v.k = 0 := by rcases hkd with h | h; exact h; exact absurd (.inr (.inl h)) hsk
            have hvi : v.i = false := by cases h : v.i; rfl; exact absurd (.inr (.inr h)) hsk
            subst hff
            rw [hk] at a0
            rw [hvi] at a3
            obtain ⟨q, x, g1, g2, g3, g4, g5⟩ := WH.out.read OH.out hat hk hvi
            have hzs : ∃ z ∈ ws, z.v = v.v ∧ z.s = q.s ∧ z.k = q.k ∧ z.e = q.e := by
              have hb : Bef hs.length 0 0 q.s q.k q.e := by
                obtain ⟨l9, t9, y1, _⟩ := id g2
                have := (List.getElem?_eq_some_iff.mp y1).1
                unfold Bef; omega
              obtain ⟨z, z1, z2, z3⟩ := MH.out.bwd _ _ _ x g2 hb g3
              exact ⟨z, z1, by rw [z2, g4], z3⟩
            obtain ⟨l9, t9, y1, y2, y3⟩ := g2
            have hqs : q.s < hs.length := (List.getElem?_eq_some_iff.mp y1).1
            have hqk : q.k < l9.length := (List.getElem?_eq_some_iff.mp y2).1
            have hq9 : q.k < 1000 := by have := OH.out.small2 l9 (List.mem_of_getElem? y1); omega
            have Y1 : Hid (hs[q.s]? = some l9) := y1
            have Y2 : Hid (l9[q.k]? = some t9) := y2
            have RG : Hid (t9.com = true → RC hs F s k e → RC hs F s k (e + 1)) := fun hcq hr => hr.step (fun q' ⟨v', h1, _, _, _, h5, h6⟩ => by
              have := h1.same hat; subst this
              rw [g1] at h5; injection h5 with h5; subst h5
              exact h6 ⟨l9, t9, y1, y2, hcq⟩)
            have RBx : Hid (t9.com = false → Unc hs F s k e q) := fun hcq => ⟨v, hat, CM.out, hk, hvi, g1, fun ⟨l8, t8, c1, c2, c3⟩ => by
              rw [y1] at c1; injection c1 with c1; subst c1
              rw [y2] at c2; injection c2 with c2; subst c2
              rw [hcq] at c3; cases c3⟩
            have HZS : Hid (∃ z ∈ ws, z.v = v.v ∧ z.s = q.s ∧ z.k = q.k ∧ z.e = q.e) := hzs
            have hkv : Hid (v.k = 0 ∧ v.i = false) := ⟨hk, hvi⟩
            clear hsk hat hkd hk hvi g1 g3 g4 g5 y1 y2 y3 hzs
            go_upto_region 65 with fail
            obtain ⟨b31, hb31⟩ : ∃ z, z = wz.heap.size := ⟨_, rfl⟩
            obtain ⟨W6, hW6⟩ : ∃ z : World, z = wz.alloc (.cells #[.int .u8 0, .int .u64 v.x, .int .u64 v.v, .bool false] 37) := ⟨_, rfl⟩
            have U6 : Upd [] wz W6 := by rw [hW6]; exact Upd.alloc _ _ _
            have e2 : W6.cell? ⟨b31, 2, none⟩ = some (.int .u64 v.v) := by rw [hW6, hb31]; exact (Blk.new wz #[.int .u8 0, .int .u64 v.x, .int .u64 v.v, .bool false] 37).cell 2
            have K9 : Hid _ := find9 W6 sa sc fp ws ((SWH.out.keep UZ.out (fun q hq hm => by simp at hm; subst hm; exact n3 hq)).keep U6 (by simp)) v.v (by omega)
            have U6H : Hid (Upd [] wz W6) := U6
            rw [← hW6, ← hb31]
            clear a0 a1 a2 a3 hW6 hb31 U6
            go_wp2_with fail
            refine Calls.mono K9.out ?_
            rintro e' w9 ⟨hw9, i9, rfl, hfnd⟩
            subst hw9
            obtain ⟨kz, z, hi9, hz, hzv⟩ : ∃ (k : Nat) (z : Wz), i9 = (k : Int) ∧ ws[k]? = some z ∧ z.v = v.v := by
              rcases hfnd with ⟨_, hno⟩ | h
              · exfalso
                obtain ⟨z, z1, z2, _⟩ := HZS.out
                exact hno z z1 z2
              · exact h
            subst hi9
            obtain ⟨z', z1, z2, z3, z4, z5⟩ := HZS.out
            have hzz : z = z' := by
              obtain ⟨j, hj⟩ := List.getElem?_of_mem z1
              have e1 : (ws.map Wz.v)[kz]? = some v.v := by simp [hz, hzv]
              have e2 : (ws.map Wz.v)[j]? = some v.v := by simp [hj, z2]
              have := (List.getElem?_inj (List.getElem?_eq_some_iff.mp e1).1 MH.out.nd).mp (e1.trans e2.symm)
              subst this
              rw [hz] at hj; injection hj
            subst hzz
            obtain ⟨bZ, ea, hbZ, f0, f1, f2⟩ := Wz.look (SWH.out.keep UZ.out (fun q hq hm => by simp at hm; subst hm; exact n3 hq)) hz
            subst ea
            have f0 : w9.cell? ⟨bZ, kz * 5 + 2, none⟩ = some (.int .i64 q.s) := by rw [← z3]; exact U6H.out.cell f0 (by simp)
            have f1 : w9.cell? ⟨bZ, kz * 5 + 3, none⟩ = some (.int .i64 q.k) := by rw [← z4]; exact U6H.out.cell f1 (by simp)
            have f2 : w9.cell? ⟨bZ, kz * 5 + 4, none⟩ = some (.int .i64 q.e) := by rw [← z5]; exact U6H.out.cell f2 (by simp)
            have hkz : kz < ws.length := (List.getElem?_eq_some_iff.mp hz).1
            clear hfnd hz hzv z1 z2 z3 z4 z5 K9 e2
            go_upto_region 66 with fail
            obtain ⟨b32, hb32⟩ : ∃ z, z = w9.heap.size := ⟨_, rfl⟩
            obtain ⟨Wn, hWn⟩ : ∃ z : World, z = w9.alloc (.cells #[.int .i64 q.s, .int .i64 q.k, .int .i64 q.e] 56) := ⟨_, rfl⟩
            have k1 : Blk Wn b32 56 #[.int .i64 q.s, .int .i64 q.k, .int .i64 q.e] := by rw [hWn, hb32]; exact Blk.new _ _ _
            have UN : Upd [] wz Wn := by rw [hWn]; exact U6H.out.trans (Upd.alloc [] _ _) (by simp)
            rw [← hWn, ← hb32]
            have m0 : Wn.cell? ⟨b32, 0, none⟩ = some (.int .i64 q.s) := k1.cell 0
            have m1 : Wn.cell? ⟨b32, 1, none⟩ = some (.int .i64 q.k) := k1.cell 1
            have m2 : Wn.cell? ⟨b32, 2, none⟩ = some (.int .i64 q.e) := k1.cell 2
            have UZN : Upd [bW] wr Wn := UZ.out.trans UN (by simp)
            have bx : Wn.cell? ⟨bH, 0, none⟩ = some (.slice (some ⟨R.top, 0, none⟩) hs.length cap) := UZN.cell CH.out (by simpa using n2)
            obtain ⟨o9, d1, d2⟩ := (HWB.out Wn UZN).base.ses q.s l9 Y1.out
            have ho9 : o9 = some ⟨R.ses q.s, 0, none⟩ := d2 (by intro h; rw [h] at hqk; simp at hqk)
            subst ho9
            have d3 := (HWB.out Wn UZN).base.com q.s l9 q.k t9 Y1.out Y2.out
            have UNH : Hid (Upd [bW] wr Wn) := UZN
            have ZN : Hid (WS hs F bW s k e false Wn) := ZS.out.keep UN (fun h => h)
            clear hWn hb32 k1 UN UZN d2 f0 f1 f2
            cases hcq : t9.com with
            | true =>
              as_aux_lemma =>
              rw [hcq] at d3
              have ZM : Hid (∀ n, WS hs F bW s k (e + 1) false (Wn.drewN n)) := fun n => ZN.out.keep (Upd.drewN [] _ _) (RG.out hcq)
              clear hcq
              go_big_quiet (fail)
              go_wp2_with fail
              refine Met.intro ?_
              refine HJ8.out _ _ ?_
              refine EndC.of (t.evs.length - (e + 1)) (.int .i64 (((e : Int) + 1) : Int)) (.bool false) ?_ (by omega) ?_
              · rfl
              exact ⟨e + 1, false, by omega, rfl, by go_num, rfl, UNH.out.trans (Upd.drewN [] _ _) (by simp), ZM.out _⟩
            | false =>
              as_aux_lemma =>
              rw [hcq] at d3
              have UB : Hid (Unc hs F s k e q) := RBx.out hcq
              clear hcq
              go_big_quiet (fail)
              obtain ⟨W7, hW7⟩ : ∃ z : World, z = Wn.drewN nq := ⟨_, rfl⟩
              have U7 : Upd [] Wn W7 := by rw [hW7]; exact Upd.drewN [] _ _
              have n0' : W7.cell? ⟨b32, 0, none⟩ = some (.int .i64 q.s) := U7.cell m0 (by simp)
              have n1' : W7.cell? ⟨b32, 1, none⟩ = some (.int .i64 q.k) := U7.cell m1 (by simp)
              have n2' : W7.cell? ⟨b32, 2, none⟩ = some (.int .i64 q.e) := U7.cell m2 (by simp)
              have HK7 : RC hs F s k e ∧ Blk W7 bW 59 #[.int .i64 0, .int .i64 0, .int .i64 0, .int .u8 0, .int .i64 0, .int .i64 0, .int .i64 0] := by
                rcases ZN.out with ⟨_, h2, h3⟩ | ⟨h1, _⟩
                · exact ⟨h2, h3.keep U7 (by simp)⟩
                · cases h1
              have RC7 : Hid (RC hs F s k e) := HK7.1
              have KW7 : Hid (Blk W7 bW 59 #[.int .i64 0, .int .i64 0, .int .i64 0, .int .u8 0, .int .i64 0, .int .i64 0, .int .i64 0]) := HK7.2
              have U7H : Hid (Upd [bW] wr W7) := UNH.out.trans U7 (by simp)
              rw [← hW7]
              clear hW7 m0 m1 m2 bx d1 d3 U7 HK7
              go_wp2_with (refine wpList_store_row rfl 59 (.tmp 25) (.tmp 281) rfl bW _ rfl rfl 59 _ KW7.out hi59 rfl (by simp [Value.oneCell']) ?_)
              refine Met.intro ?_
              refine HJ8.out _ _ ?_
              refine EndC.of (t.evs.length - (e + 1)) (.int .i64 (((e : Int) + 1) : Int)) (.bool true) ?_ (by omega) ?_
              · rfl
              exact ⟨e + 1, true, by omega, rfl, by go_num, rfl, U7H.out.trans (updRow _ _ _) (by simp), .inr ⟨rfl, s, k, e, q, UB.out, RC7.out, setRow_heap _ _ _ _ 59 (0, 0) KW7.out⟩⟩
        · as_aux_lemma =>
          have he2 : e = t.evs.length := by omega
          have ZN : Hid (WS hs F bW s (k + 1) 0 ff wz) := ZS.out.keep (Upd.refl _ _) (fun h => by rw [he2] at h; exact h.nextTxn L3.out T3.out)
          clear he2
          go_wp2_with fail
          refine Met.intro ?_
          refine HJ7.out _ _ ?_
          refine EndC.of (l.length - (k + 1)) (.int .i64 (((k : Int) + 1) : Int)) (.bool ff) ?_ (by omega) ?_
          · rfl
          exact ⟨k + 1, ff, by omega, rfl, by go_num, rfl, UZ.out, ZN.out⟩
    · as_aux_lemma =>
      have hk2 : k = l.length := by omega
      have YN : Hid (WS hs F bW (s + 1) 0 0 fe wy) := YS.out.keep (Upd.refl _ _) (fun h => by rw [hk2] at h; exact h.nextSes L3.out)
      clear hk2
      go_wp2_with fail
      refine Met.intro ?_
      refine HJ6.out _ _ ?_
      refine EndC.of (hs.length - (s + 1)) (.int .i64 (((s : Int) + 1) : Int)) (.bool fe) ?_ (by omega) ?_
      · rfl
      exact ⟨s + 1, fe, by omega, rfl, by go_num, rfl, UY.out, YN.out⟩
  · as_aux_lemma =>
    have hs2 : s = hs.length := by omega
    have XE : Hid (WS hs F bW hs.length 0 0 fd wx) := by have := XS.out; rw [hs2] at this; exact this
    have kVx : Blk wx bV 47 #[.slice vA.a vA.n vA.c, .slice vB.a vB.n vB.c, .bool ser, .slice vO.a vO.n vO.c, .pointer mp, .slice vC.a vC.n vC.c, .slice vR.a vR.n vR.c, .slice vK.a vK.n vK.c] := KV.out.keep UX.out (by simpa using n1)
    have d2 : wx.cell? ⟨bV, 2, none⟩ = some (.bool ser) := kVx.cell 2
    have d3 : wx.cell? ⟨bV, 3, none⟩ = some (.slice vO.a vO.n vO.c) := kVx.cell 3
    have d4 : wx.cell? ⟨bV, 4, none⟩ = some (.pointer mp) := kVx.cell 4
    have d5 : wx.cell? ⟨bV, 5, none⟩ = some (.slice vC.a vC.n vC.c) := kVx.cell 5
    have d7 : wx.cell? ⟨bV, 7, none⟩ = some (.slice vK.a vK.n vK.c) := kVx.cell 7
    have chx : wx.cell? ⟨bH, 0, none⟩ = some (.slice ta hs.length cap) := UX.out.cell CH.out (by simpa using n2)
    have BX : Hid (Below w.heap.size w wx) := BB.out.trans (UX.out.below BB.out.size (by simpa using hgW))
    clear hs2 kVx
    go_upto_region 72 with fail
    rcases VH.out with ⟨bM, ra, rb, rc, rf, ra', rb', rc', rfl, rfl, kM, hMW, hD⟩ | ⟨rfl, rfl, hR⟩ | ⟨rfl, rfl, hR, rfl, rfl, K10⟩
    · rcases hD with ⟨s0, k0, e0, q, hU, hRc, rfl, rfl, rfl, rfl, rfl, rfl, rfl⟩ | hR
      · as_aux_lemma =>
        rcases XE.out with ⟨_, h2, _⟩ | ⟨rfl, s1, k1, e1, q1, h2, h3, h4⟩
        · exact (hU.notAll h2).elim
        obtain ⟨rfl, rfl, rfl, rfl⟩ := hU.same hRc h2 h3
        have kMx := kM.keep UX.out (by simpa using hMW)
        have m0 : wx.cell? ⟨bM, 0, none⟩ = some (.int .i64 s0) := kMx.cell 0
        have m1 : wx.cell? ⟨bM, 1, none⟩ = some (.int .i64 k0) := kMx.cell 1
        have m2 : wx.cell? ⟨bM, 2, none⟩ = some (.int .i64 e0) := kMx.cell 2
        have m3 : wx.cell? ⟨bM, 3, none⟩ = some (.int .u8 0) := kMx.cell 3
        have m4 : wx.cell? ⟨bM, 4, none⟩ = some (.int .i64 q.s) := kMx.cell 4
        have m5 : wx.cell? ⟨bM, 5, none⟩ = some (.int .i64 q.k) := kMx.cell 5
        have m6 : wx.cell? ⟨bM, 6, none⟩ = some (.int .i64 q.e) := kMx.cell 6
        have p0 : wx.cell? ⟨bW, 0, none⟩ = some (.int .i64 s0) := h4.cell 0
        have p1 : wx.cell? ⟨bW, 1, none⟩ = some (.int .i64 k0) := h4.cell 1
        have p2 : wx.cell? ⟨bW, 2, none⟩ = some (.int .i64 e0) := h4.cell 2
        have p3 : wx.cell? ⟨bW, 3, none⟩ = some (.int .u8 0) := h4.cell 3
        have p4 : wx.cell? ⟨bW, 4, none⟩ = some (.int .i64 q.s) := h4.cell 4
        have p5 : wx.cell? ⟨bW, 5, none⟩ = some (.int .i64 q.k) := h4.cell 5
        have p6 : wx.cell? ⟨bW, 6, none⟩ = some (.int .i64 q.e) := h4.cell 6
        clear kM kMx h2 h3 h4 hU hRc
        go_big_quiet (fail)
        go_wp2_with fail
        go_ret
        exact ⟨rfl, BX.out.trans ((Upd.drewN [] _ _).below BX.out.size (by simp))⟩
      · as_aux_lemma =>
        rcases XE.out with ⟨rfl, _, _⟩ | ⟨_, s1, k1, e1, q1, h2, _⟩
        case inr => exact (h2.notAll hR).elim
        clear kM
        go_big_quiet (fail)
        go_wp2_with fail
        go_ret
        exact ⟨rfl, BX.out.trans ((Upd.drewN [] _ _).below BX.out.size (by simp))⟩
    · as_aux_lemma =>
      rcases XE.out with ⟨rfl, _, _⟩ | ⟨_, s1, k1, e1, q1, h2, _⟩
      case inr => exact (h2.notAll hR).elim
      go_big_quiet (fail)
      go_wp2_with fail
      go_ret
      exact ⟨rfl, BX.out.trans ((Upd.drewN [] _ _).below BX.out.size (by simp))⟩
    · as_aux_lemma =>
      rcases XE.out with ⟨rfl, _, _⟩ | ⟨_, s1, k1, e1, q1, h2, _⟩
      case inr => exact (h2.notAll hR).elim
      have KT : Hid (∀ w1, Upd [bW] wr w1 → Calls Ybaz.prog 10 #[.agg #[.slice ta hs.length cap], .slice vO.a vO.n vO.c] w1 (fun e w' => e = .returned (.bool true) ∧ Below w1.heap.size w1 w')) := K10
      have q43n : ∀ (w : World) (a : Option Addr) (n c n' c' : Nat), (binOp .eql 43 (.slice a n c) (.slice none n' c')).run Ybaz.prog w = .ok (.bool a.isNone) w := fun w a n c n' c' => Lib.run_eql_slice_nil w _ _ a n c n' c' Ybaz.underlying43
      clear K10 hR
      go_big_quiet (fail)
      obtain ⟨W7, hW7⟩ : ∃ z : World, z = wx.drewN nq := ⟨_, rfl⟩
      have U7 : Upd [] wx W7 := by rw [hW7]; exact Upd.drewN [] _ _
      have K7 : Hid _ := KT.out W7 (UX.out.trans U7 (by simp))
      have B7 : Hid (Below w.heap.size w W7) := BX.out.trans (U7.below BX.out.size (by simp))
      have d2 := U7.cell d2 (by simp)
      have d3 := U7.cell d3 (by simp)
      have d4 := U7.cell d4 (by simp)
      have d5 := U7.cell d5 (by simp)
      have d7 := U7.cell d7 (by simp)
      have chx := U7.cell chx (by simp)
      rw [← hW7]
      clear hW7 U7
      go_wp2_with fail
      refine Calls.mono K7.out ?_
      rintro e' w8 ⟨rfl, B8⟩
      go_wp2_with fail
      go_ret
      exact ⟨rfl, B7.out.trans (B8.mono B7.out.size)⟩
end Go.Proofs.YbulkctquGreatFmt

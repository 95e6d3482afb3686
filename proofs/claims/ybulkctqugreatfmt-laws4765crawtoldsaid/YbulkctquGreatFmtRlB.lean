/-
  The raw law: the history is built.
-/
import Derived.Test.YbulkctquGreatFmtRlT
import Derived.Test.YbulkctquGreatFmtRlI
import Derived.Deep.RegionWith
import Derived.BigQuiet
import Derived.Laws.Rows
import Derived.Deep.DeepCutAuto
import Derived.Lib.SliceRun
namespace Go.Proofs.YbulkctquGreatFmt
open Go.ChangeShapes Go.WideShapes Go.ChangeAt Go.RowKit Go.Ord
set_option linter.unusedVariables false
attribute [-go_sem] Go.Builtin.append_ Go.Instr.buildSlice Go.Instr.build

/-- Where the sessions lie: in a row, or nowhere. -/
def TopA (R : HR) (hs : List (List Tx)) (ta : Option Addr) (cap : Nat) : Prop := ta = some ⟨R.top, 0, none⟩ ∨ (ta = none ∧ hs = [] ∧ cap = 0)
/-- What the functions that the law calls do. -/
structure KS (w : World) (hs : List (List Tx)) : Prop where
  k5 : ∀ (w1 : World) (R : HR) (ta : Option Addr) (cap : Nat), TopA R hs ta cap → HistE w1 R hs → Below w.heap.size w w1 → Calls Ybaz.prog 5 #[.agg #[.slice ta hs.length cap]] w1 (MoPost w1 hs)
  k6 : ∀ (w1 : World) (R : HR) (ta : Option Addr) (cap : Nat), TopA R hs ta cap → HistE w1 R hs → Below w.heap.size w w1 → Calls Ybaz.prog 6 #[.agg #[.slice ta hs.length cap]] w1 (CertPostR w1 hs)
  k7 : ∀ (w1 : World) (R : HR) (ta : Option Addr) (cap : Nat), TopA R hs ta cap → HistE w1 R hs → Below w.heap.size w w1 → Calls Ybaz.prog 7 #[.agg #[.slice ta hs.length cap]] w1 (fun e w' => ∃ vA vB, e = .returned (.tuple #[vA.val, vB.val]) ∧ Two w1 w' vA vB (allN 0 hs) (allA 0 hs))
  k10 : ∀ (w1 : World) (R : HR) (ta : Option Addr) (cap : Nat) (F : Nat → Option Wr) (A : List Rk) (zs : List Nat) (NM : Nat × Nat → Option Nat) (vars vers : List Nat) (os : List Ob) (ss : List Sr) (fa : List Int) (ows G : List (List Nat)) (J : List Bool) (P : List Nat) (g c : Nat), TopA R hs ta cap → HistE w1 R hs → Below w.heap.size w w1 → HOk hs → WF hs F → NP hs F A zs NM vars vers os ss fa ows G J → POR hs A zs os ss P → Sl w1 9 1 (some ⟨g, 0, none⟩) P.length c [g] ((nmsOf (nmsAt A zs A.length) P).map strV) → Calls Ybaz.prog 10 #[.agg #[.slice ta hs.length cap], .slice (some ⟨g, 0, none⟩) P.length c] w1 (fun e w' => e = .returned (.bool true) ∧ Below w1.heap.size w1 w')
theorem TopA.at_ {R : HR} {hs : List (List Tx)} {ta : Option Addr} {cap : Nat} (h : TopA R hs ta cap) : hs ≠ [] → ta = some ⟨R.top, 0, none⟩ := fun hn => by
  rcases h with h | ⟨_, h, _⟩
  · exact h
  · exact absurd h hn
theorem law43K {u0 u1 u2 u3 u4 u5 u6 u7 u9 u10 u11 u12 u13 u14 u15 u16 u17 u18 u19 u20 u21 u22 u23 u24 u25 u26 u27 u28 u29 u30 u31 u32 u33 u34 u35 u36 u37 u38 u39 u40 u41 u42 u43 u44 u45 u46 u47 u48 u49 u50 u51 u52 u53 u54 u55 u56 u57 u58 u59 u60 u61 u62 u63 u64 u65 u66 u67 u68 u69 u70 u71 u72 u73 u74 u75 u76 u77 u78 u79 u80 u81 u82 u83 u84 u85 u86 u87 u88 u89 u90 u91 u92 u93 u94 u95 u96 u97 u98 u99 u100 u101 u102 u103 u104 u105 u106 u107 u108 u109 u110 u111 u112 u113 u114 u115 u116 u117 u118 u119 u120 u121 u122 u123 u124 u125 u126 u127 u128 u129 u130 u131 u132 u133 u134 u135 u136 u137 u138 u139 u140 u141 u142 u143 u144 u145 u146 u147 u148 u149 u150 u151 u152 u153 u154 u155 u156 u157 u158 u159 u160 u161 u162 u163 u164 u165 u166 u167 u168 u169 u170 u171 u172 u173 u174 u175 u176 u177 u178 u179 u180 u181 u182 u183 u184 u185 u186 u187 u188 u189 u190 u191 u192 u193 u194 u195 u196 u197 u198 u199 u200 u201 u202 u203 u204 u205 u206 u207 u208 u209 u210 u211 u212 u213 u214 u215 u216 u217 u218 u219 u220 u221 u222 u223 u224 u225 u226 u227 u228 u229 u230 u231 u232 u233 u234 u235 u236 u237 u238 u239 u240 u241 u242 u243 u244 u245 u246 u247 u248 u249 u250 u251 u252 u253 u254 u255 u256 u257 u258 u259 u260 u261 u262 u263 u264 u265 u266 u267 u268 u269 u270 u271 u272 u273 u274 u275 u276 u277 u278 u279 u280 u281 u282 u283 u284 u285 u286 u287 u288 u289 u290 u291 u292 u293 u294 u295 u296 u297 u298 u299 u300 u301 u302 u303 u304 u305 u306 u307 u308 u309 u310 u311 u312 u313 u314 u315 u316 u317 u318 u319 u320 u321 u322 u323 u324 u325 u326 u327 : Value} (w wr : World) (R : HR) (hs : List (List Tx)) (ta : Option Addr) (cap : Nat) (TA : TopA R hs ta cap) (K : KS w hs) (H : HistE wr R hs) (Bd : Bnd hs) (bH : Nat) (cH : Blk wr bH 29 #[.slice ta hs.length cap]) (B0 : Below w.heap.size w wr) :
    q43.wp Ybaz.prog (bodyPost Ybaz.prog Ybaz.f3 (fun e w2 => e = .returned (.bool true) ∧ Below w.heap.size w w2)) ⟨[u0, u1, u2, u3, u4, u5, u6, u7, .pointer (some ⟨bH, 0, none⟩), u9, u10, u11, u12, u13, u14, u15, u16, u17, u18, u19, u20, u21, u22, u23, u24, u25, u26, u27, u28, u29, u30, u31, u32, u33, u34, u35, u36, u37, u38, u39, u40, u41, u42, u43, u44, u45, u46, u47, u48, u49, u50, u51, u52, u53, u54, u55, u56, u57, u58, u59, u60, u61, u62, u63, u64, u65, u66, u67, u68, u69, u70, u71, u72, u73, u74, u75, u76, u77, u78, u79, u80, u81, u82, u83, u84, u85, u86, u87, u88, u89, u90, u91, u92, u93, u94, u95, u96, u97, u98, u99, u100, u101, u102, u103, u104, u105, u106, u107, u108, u109, u110, u111, u112, u113, u114, u115, u116, u117, u118, u119, u120, u121, u122, u123, u124, u125, u126, u127, u128, u129, u130, u131, u132, u133, u134, u135, u136, u137, u138, u139, u140, u141, u142, u143, u144, u145, u146, u147, u148, u149, u150, u151, u152, u153, u154, u155, u156, u157, u158, u159, u160, u161, u162, u163, u164, u165, u166, u167, u168, u169, u170, u171, u172, u173, u174, u175, u176, u177, u178, u179, u180, u181, u182, u183, u184, u185, u186, u187, u188, u189, u190, u191, u192, u193, u194, u195, u196, u197, u198, u199, u200, u201, u202, u203, u204, u205, u206, u207, u208, u209, u210, u211, u212, u213, u214, u215, u216, u217, u218, u219, u220, u221, u222, u223, u224, u225, u226, u227, u228, u229, u230, u231, u232, u233, u234, u235, u236, u237, u238, u239, u240, u241, u242, u243, u244, u245, u246, u247, u248, u249, u250, u251, u252, u253, u254, u255, u256, u257, u258, u259, u260, u261, u262, u263, u264, u265, u266, u267, u268, u269, u270, u271, u272, u273, u274, u275, u276, u277, u278, u279, u280, u281, u282, u283, u284, u285, u286, u287, u288, u289, u290, u291, u292, u293, u294, u295, u296, u297, u298, u299, u300, u301, u302, u303, u304, u305, u306, u307, u308, u309, u310, u311, u312, u313, u314, u315, u316, u317, u318, u319, u320, u321, u322, u323, u324, u325, u326, u327].toArray, []⟩ wr :=
  law43 w wr R hs ta cap TA.at_ H Bd bH cH B0 (fun w1 hb => K.k5 w1 R ta cap TA (H.below hb) (B0.trans (hb.mono B0.size))) (fun w1 hb => K.k6 w1 R ta cap TA (H.below hb) (B0.trans (hb.mono B0.size))) (fun w1 hb => K.k7 w1 R ta cap TA (H.below hb) (B0.trans (hb.mono B0.size))) (fun w1 F A zs NM vars vers os ss fa ows G J P g c hb => K.k10 w1 R ta cap F A zs NM vars vers os ss fa ows G J P g c TA (H.below hb) (B0.trans (hb.mono B0.size)))
theorem RB.start2 {w0 w : World} (B : Below w0.heap.size w0 w) (n : Nat) (hn : n < 1000) : RB w0 ((w.alloc (.cells #[.slice (some ⟨w.heap.size + 1, 0, none⟩) n n] 29)).alloc (.cells (zeros (.slice none 0 0) n).toArray 30)) w.heap.size (w.heap.size + 1) n ⟨w.heap.size + 1, fun _ => 0, fun _ => 0, fun _ _ => 0, fun _ _ => 0⟩ [] := by
  obtain ⟨x1, e1⟩ : ∃ z : World, z = w.alloc (.cells #[.slice (some ⟨w.heap.size + 1, 0, none⟩) n n] 29) := ⟨_, rfl⟩
  obtain ⟨x2, e2⟩ : ∃ z : World, z = x1.alloc (.cells (zeros (.slice none 0 0) n).toArray 30) := ⟨_, rfl⟩
  have z1 : x1.heap.size = w.heap.size + 1 := by rw [e1]; simp
  have u1 : Upd [] w x1 := by rw [e1]; exact Upd.alloc _ _ _
  have u2 : Upd [] x1 x2 := by rw [e2]; exact Upd.alloc _ _ _
  have b1 : Blk x1 w.heap.size 29 #[.slice (some ⟨w.heap.size + 1, 0, none⟩) n n] := by rw [e1]; exact Blk.new _ _ _
  have s2 := Sl.made x1 30 (.slice none 0 0) 1 n n (Nat.le_refl _) (by omega)
  rw [Nat.mul_one, ← e2, z1] at s2
  rw [← e1, ← e2]
  have hB := B.size
  refine ⟨B.trans ((u1.trans u2 (by simp)).below hB (by simp)), b1.keep u2 (by simp), ⟨_, s2, fun s _ hs => ?_⟩, ⟨⟨fun s l h => by simp at h, fun s l k t h => by simp at h, fun s l k t h => by simp at h⟩, fun s l k t e v j u h => by simp at h⟩, rfl, fun s l h => by simp at h, fun s k l t h => by simp at h, hB, by show w0.heap.size ≤ w.heap.size + 1; omega⟩
  rw [zeros_one _ rfl, List.getElem?_replicate, if_pos hs]
noncomputable def l17 : Code := ((Ybaz.f3.body.bind (fromHead 17)).getD .skip)
theorem info30t : (Ybaz.prog.info? 30).map (fun i => (i.zero, i.size, i.bytes)) = some (some (.slice none 0 0), 1, 24) := by kernel_rfl
theorem mkTx39 : MakeOf Ybaz.prog 30 39 (.agg #[.slice none 0 0, .bool false]) 2 32 := MakeOf.mk Ybaz.underlying30 info39s
theorem bd37 (k : Int) (x v : Int) (i : Bool) (w : World) : (Instr.build 37 #[(0, .int .u8 k), (1, .int .u64 x), (2, .int .u64 v), (3, .bool i)]).run Ybaz.prog w = .ok (.agg #[.int .u8 k, .int .u64 x, .int .u64 v, .bool i]) w := by kernel_rfl
theorem bd39 (a : Option Addr) (n c : Nat) (i : Bool) (w : World) : (Instr.build 39 #[(0, .slice a n c), (1, .bool i)]).run Ybaz.prog w = .ok (.agg #[.slice a n c, .bool i]) w := by kernel_rfl
set_option maxHeartbeats 16000000 in
set_option maxRecDepth 100000 in
theorem build17 {u1 u2 u3 u4 u5 u6 u7 u8 u9 u10 u11 u12 u13 u14 u15 u16 u17 u18 u19 u20 u21 u22 u23 u24 u25 u26 u27 u28 u29 u30 u31 u32 u33 u34 u35 u36 u37 u38 u39 u40 u41 u42 u43 u44 u45 u46 u47 u48 u49 u50 u51 u52 u53 u54 u55 u56 u57 u58 u59 u60 u61 u62 u63 u64 u65 u66 u67 u68 u69 u70 u71 u72 u73 u74 u75 u76 u77 u78 u79 u80 u81 u82 u83 u84 u85 u86 u87 u88 u89 u90 u91 u92 u93 u94 u95 u96 u97 u98 u99 u100 u101 u102 u103 u104 u105 u106 u107 u108 u109 u110 u111 u112 u113 u114 u115 u116 u117 u118 u119 u120 u121 u122 u123 u124 u125 u126 u127 u128 u129 u130 u131 u132 u133 u134 u135 u136 u137 u138 u139 u140 u141 u142 u143 u144 u145 u146 u147 u148 u149 u150 u151 u152 u153 u154 u155 u156 u157 u158 u159 u160 u161 u162 u163 u164 u165 u166 u167 u168 u169 u170 u171 u172 u173 u174 u175 u176 u177 u178 u179 u180 u181 u182 u183 u184 u185 u186 u187 u188 u189 u190 u191 u192 u193 u194 u195 u196 u197 u198 u199 u200 u201 u202 u203 u204 u205 u206 u207 u208 u209 u210 u211 u212 u213 u214 u215 u216 u217 u218 u219 u220 u221 u222 u223 u224 u225 u226 u227 u228 u229 u230 u231 u232 u233 u234 u235 u236 u237 u238 u239 u240 u241 u242 u243 u244 u245 u246 u247 u248 u249 u250 u251 u252 u253 u254 u255 u256 u257 u258 u259 u260 u261 u262 u263 u264 u265 u266 u267 u268 u269 u270 u271 u272 u273 u274 u275 u276 u277 u278 u279 u280 u281 u282 u283 u284 u285 u286 u287 u288 u289 u290 u291 u292 u293 u294 u295 u296 u297 u298 u299 u300 u301 u302 u303 u304 u305 u306 u307 u308 u309 u310 u311 u312 u313 u314 u315 u316 u317 u318 u319 u320 u321 u322 u323 u324 u325 u326 u327 : Value} (w wr : World) (a : Option Addr) (ss : List (List RwT)) (cap0 : Nat) (AR : ArgRS w a ss) (NO : NilOr a ss.length cap0) (FW : Few ss) (B0 : Below w.heap.size w wr) (K : KS w (hsR ss)) :
    l17.wp Ybaz.prog (bodyPost Ybaz.prog Ybaz.f3 (fun e w2 => e = .returned (.bool true) ∧ Below w.heap.size w w2)) ⟨[.slice a ss.length cap0, u1, u2, u3, u4, u5, u6, u7, u8, u9, u10, u11, u12, u13, u14, u15, u16, u17, u18, u19, u20, u21, u22, u23, u24, u25, u26, u27, u28, u29, u30, u31, u32, u33, u34, u35, u36, u37, u38, u39, u40, u41, u42, u43, u44, u45, u46, u47, u48, u49, u50, u51, u52, u53, u54, u55, u56, u57, u58, u59, u60, u61, u62, u63, u64, u65, u66, u67, u68, u69, u70, u71, u72, u73, u74, u75, u76, u77, u78, u79, u80, u81, u82, u83, u84, u85, u86, u87, u88, u89, u90, u91, u92, u93, u94, u95, u96, u97, u98, u99, u100, u101, u102, u103, u104, u105, u106, u107, u108, u109, u110, u111, u112, u113, u114, u115, u116, u117, u118, u119, u120, u121, u122, u123, u124, u125, u126, u127, u128, u129, u130, u131, u132, u133, u134, u135, u136, u137, u138, u139, u140, u141, u142, u143, u144, u145, u146, u147, u148, u149, u150, u151, u152, u153, u154, u155, u156, u157, u158, u159, u160, u161, u162, u163, u164, u165, u166, u167, u168, u169, u170, u171, u172, u173, u174, u175, u176, u177, u178, u179, u180, u181, u182, u183, u184, u185, u186, u187, u188, u189, u190, u191, u192, u193, u194, u195, u196, u197, u198, u199, u200, u201, u202, u203, u204, u205, u206, u207, u208, u209, u210, u211, u212, u213, u214, u215, u216, u217, u218, u219, u220, u221, u222, u223, u224, u225, u226, u227, u228, u229, u230, u231, u232, u233, u234, u235, u236, u237, u238, u239, u240, u241, u242, u243, u244, u245, u246, u247, u248, u249, u250, u251, u252, u253, u254, u255, u256, u257, u258, u259, u260, u261, u262, u263, u264, u265, u266, u267, u268, u269, u270, u271, u272, u273, u274, u275, u276, u277, u278, u279, u280, u281, u282, u283, u284, u285, u286, u287, u288, u289, u290, u291, u292, u293, u294, u295, u296, u297, u298, u299, u300, u301, u302, u303, u304, u305, u306, u307, u308, u309, u310, u311, u312, u313, u314, u315, u316, u317, u318, u319, u320, u321, u322, u323, u324, u325, u326, u327].toArray, []⟩ wr := by
  have AH : Hid _ := AR
  have FH : Hid _ := FW
  have KH : Hid _ := K
  have BB : Hid (Below w.heap.size w wr) := B0
  have hn8 := FW.n
  have hb37 := bd37
  have hb39 := bd39
  have q23n : ∀ (w : World) (a : Option Addr) (n c n' c' : Nat), (binOp .eql 23 (.slice a n c) (.slice none n' c')).run Ybaz.prog w = .ok (.bool a.isNone) w := fun w a n c n' c' => Lib.run_eql_slice_nil w _ _ a n c n' c' Ybaz.underlying23
  clear AR FW K B0
  conv => arg 2; whnf
  rcases NO with ⟨rfl, hn0, rfl⟩ | ⟨xa, rfl⟩
  · as_aux_lemma =>
    have hss : ss = [] := List.length_eq_zero_iff.mp hn0
    subst hss
    go_upto_region 20 with fail
    obtain ⟨bH, hbH⟩ : ∃ z, z = wr.heap.size := ⟨_, rfl⟩
    obtain ⟨W1, hW1⟩ : ∃ z : World, z = wr.alloc (.cells #[.slice none 0 0] 29) := ⟨_, rfl⟩
    have kH : Hid (Blk W1 bH 29 #[.slice none (hsR []).length 0]) := by show Blk _ _ _ _; rw [hW1, hbH]; exact Blk.new _ _ _
    have B1 : Hid (Below w.heap.size w W1) := by show Below _ _ _; rw [hW1]; exact BB.out.trans ((Upd.alloc [] _ _).below BB.out.size (by simp))
    rw [← hW1, ← hbH]
    clear hW1 hbH
    rename_i Kz hKz _ _
    have HKz : Hid _ := hKz
    clear hKz
    go_wp2_with fail
    refine wp_loopC [none, none, none, none, none, none, none, none, none, some none, some none, some none, some none, some none, some none, some none, some none, some none, none, none, none, none, none, none, none, none, none, none, none, none, none, none, none, none, none, none, none, none, none, none, none, none, none, none, none, none, none, none, none, none, none, none, none, none, none, none, none, none, none, none, none, none, none, none, none, none, none, none, some (some false), some none, some none, some none, some none, some none, some none, some none, some none, some none, some none, some none, some none, some none, some none, some none, some none, some none, some none, some none, some none, some none, some none, some none, some none, some none, some none, some none, some none, some none, some none, some none, some none, some none, some none, some none, some none, some none, some none, some none, some none, some none, some none, some none, some none, some none, some none, some none, some none, some none, some none, some none, some none, some none, some none, some none, some none, some none, some none, some none, some none, some none, some none, some none, some none, some none, some none, some none, some none, some none, some none, some none, some none, some none, some none, some none, some none, none, none, none, none, none, none, none, none, none, none, none, none, none, none, none, none, none, none, none, none, none, none, none, none, none, none, none, none, none, none, none, none, none, none, none, none, none, none, none, none, none, none, none, none, none, none, none, none, none, none, none, none, none, none, none, none, none, none, none, none, none, none, none, none, none, none, none, none, none, none, none, none, none, none, none, none, none, none, none, none, none, none, none, none, none, none, none, none, none, none, none, none, none, none, none, none, none, none, none, none, none, none, none, none, none, none, none, none, none, none, none, none, none, none, none, none, none, none, none, none, none, none, none, none, none, none, none, none, none, none, none, none, none, none, none, none, none, none, none, none, none, none, none, none, none, none, none, none, none, none, none, none, none, none, none, none, none, none, none, none, none, none, none, none, none, none, none, none, none, none, none, none, none, none, none, none, none, none, none, none, none, none, none] (fun nn tx _ wx => tx = .int .i64 0 ∧ wx = W1) 0 (.int .i64 0) undef rfl ⟨rfl, rfl⟩ ?_
    intro n3 uu x3 y3 wx J3 K3 hrel hJ3 hK3
    obtain ⟨rfl, rfl⟩ := hrel
    dsimp only [fillC, Nat.reduceAdd]
    go_wp2_with fail
    refine HKz.out _ _ ?_
    exact law43K w wx ⟨0, fun _ => 0, fun _ => 0, fun _ _ => 0, fun _ _ => 0⟩ (hsR []) none 0 (.inr ⟨rfl, rfl, rfl⟩) KH.out ⟨⟨fun s l h => by simp [hsR] at h, fun s l k t h => by simp [hsR] at h, fun s l k t h => by simp [hsR] at h⟩, fun s l k t e v j u h => by simp [hsR] at h⟩ FH.out.bnd bH kH.out B1.out
  as_aux_lemma =>
  have hmk : (Instr.makeSlice 27 (.int .i64 ss.length) (.int .i64 ss.length)).run Ybaz.prog (wr.alloc (.cells #[.slice none 0 0] 29)) = .ok (.slice (some ⟨(wr.alloc (.cells #[.slice none 0 0] 29)).heap.size, 0, none⟩) ss.length ss.length) ((wr.alloc (.cells #[.slice none 0 0] 29)).alloc (.cells (zeros (.slice none 0 0) (ss.length * 1)).toArray 30)) := mkSes.made ss.length ss.length (by omega) (by omega) (by decide) _
  have RB0 := RB.start2 BB.out ss.length (by omega)
  simp only [World.size_alloc] at hmk
  go_upto_region 20 with fail
  obtain ⟨W2, hW2⟩ : ∃ z : World, z = ((wr.alloc (.cells #[.slice (some ⟨wr.heap.size + 1, 0, none⟩) ss.length ss.length] 29)).alloc (.cells (zeros (.slice none 0 0) ss.length).toArray 30)) := ⟨_, rfl⟩
  rw [← hW2] at RB0 ⊢
  obtain ⟨bH, hbH⟩ : ∃ z, z = wr.heap.size := ⟨_, rfl⟩
  obtain ⟨bS, hbS⟩ : ∃ z, z = wr.heap.size + 1 := ⟨_, rfl⟩
  rw [← hbS, ← hbH] at RB0
  rw [← hbH]
  have RBH : Hid _ := RB0
  clear hW2 hbH hbS RB0 hmk
  rename_i Kz hKz _ _
  have HKz : Hid _ := hKz
  clear hKz
  go_wp2_with fail
  refine wp_loopC [none, none, none, none, none, none, none, none, none, some none, some none, some none, some none, some none, some none, some none, some none, some none, none, none, none, none, none, none, none, none, none, none, none, none, none, none, none, none, none, none, none, none, none, none, none, none, none, none, none, none, none, none, none, none, none, none, none, none, none, none, none, none, none, none, none, none, none, none, none, none, none, none, some (some false), some none, some none, some none, some none, some none, some none, some none, some none, some none, some none, some none, some none, some none, some none, some none, some none, some none, some none, some none, some none, some none, some none, some none, some none, some none, some none, some none, some none, some none, some none, some none, some none, some none, some none, some none, some none, some none, some none, some none, some none, some none, some none, some none, some none, some none, some none, some none, some none, some none, some none, some none, some none, some none, some none, some none, some none, some none, some none, some none, some none, some none, some none, some none, some none, some none, some none, some none, some none, some none, some none, some none, some none, some none, some none, some none, some none, none, none, none, none, none, none, none, none, none, none, none, none, none, none, none, none, none, none, none, none, none, none, none, none, none, none, none, none, none, none, none, none, none, none, none, none, none, none, none, none, none, none, none, none, none, none, none, none, none, none, none, none, none, none, none, none, none, none, none, none, none, none, none, none, none, none, none, none, none, none, none, none, none, none, none, none, none, none, none, none, none, none, none, none, none, none, none, none, none, none, none, none, none, none, none, none, none, none, none, none, none, none, none, none, none, none, none, none, none, none, none, none, none, none, none, none, none, none, none, none, none, none, none, none, none, none, none, none, none, none, none, none, none, none, none, none, none, none, none, none, none, none, none, none, none, none, none, none, none, none, none, none, none, none, none, none, none, none, none, none, none, none, none, none, none, none, none, none, none, none, none, none, none, none, none, none, none, none, none, none, none, none, none] (fun nn tx _ wx => ∃ (i : Nat) (R : HR), i ≤ ss.length ∧ nn = ss.length - i ∧ tx = .int .i64 i ∧ RB w wx bH bS ss.length R (hsR (ss.take i))) ss.length (.int .i64 0) undef rfl ⟨0, _, by omega, by omega, rfl, RBH.out⟩ ?_
  intro n3 uu x3 y3 wx J3 K3 hrel hJ3 hK3
  obtain ⟨i, R, hi1, rfl, rfl, h1⟩ := hrel
  have HJ3 : Hid _ := hJ3
  clear RBH
  have RBH : Hid (RB w wx bH bS ss.length R (hsR (ss.take i))) := h1
  clear hJ3 h1
  have hli : Hid ((hsR (ss.take i)).length = i) := by show _ = _; rw [hsR_len]; simp; omega
  dsimp only [fillC, Nat.reduceAdd]
  by_cases hlt : i < ss.length
  · as_aux_lemma =>
    obtain ⟨l, hl⟩ := has_at ss hlt
    obtain ⟨bA, oA, ea, ec, hea, a0, av, hml, hno⟩ := AH.out.at_ i l hl
    injection hea with hea
    subst hea
    have a0 := cell_bel RBH.out.bel a0
    have LK : Hid (ss[i]? = some l) := hl
    have AV : Hid _ := av
    have hm12 : l.length ≤ 12 := by have := totR_mem (List.mem_of_getElem? hl); have := FH.out.t; omega
    have H64 : Hid (∀ t ∈ l, t.evs.length ≤ 64) := FH.out.e l (List.mem_of_getElem? hl)
    clear hl av hml
    rcases hno with ⟨rfl, hl0, rfl⟩ | ⟨xe, rfl⟩
    · as_aux_lemma =>
      have hl2 : l = [] := List.length_eq_zero_iff.mp hl0
      subst hl2
      have RN : Hid (RB w wx bH bS ss.length ⟨R.top, R.ses, setF R.sc i 0, R.evs, R.ec⟩ (hsR (ss.take (i + 1)))) := by
        show RB _ _ _ _ _ _ _
        have q := RBH.out.skip (by rw [hli.out]; exact hlt)
        rw [hli.out] at q
        rw [hsR_snoc LK.out]
        exact q
      go_wp2_with fail
      refine Met.intro ?_
      refine HJ3.out _ _ ?_
      refine EndC.of (ss.length - (i + 1)) (.int .i64 (((i : Int) + 1) : Int)) undef ?_ (by omega) ?_
      · rfl
      exact ⟨i + 1, _, by omega, rfl, by go_num, RN.out⟩
    · as_aux_lemma =>
      have hmk : (Instr.makeSlice 30 (.int .i64 l.length) (.int .i64 l.length)).run Ybaz.prog wx = .ok (.slice (some ⟨wx.heap.size, 0, none⟩) l.length l.length) (wx.alloc (.cells (zeros (.agg #[.slice none 0 0, .bool false]) (l.length * 2)).toArray 39)) := mkTx39.made l.length l.length (by omega) (by omega) (by decide) wx
      have SB0 := SB.made wx l.length (by omega) (fun _ => 0) (fun _ => 0)
      go_upto_region 25 with fail
      obtain ⟨bT, hbT⟩ : ∃ z, z = wx.heap.size := ⟨_, rfl⟩
      obtain ⟨W3, hW3⟩ : ∃ z : World, z = wx.alloc (.cells (zeros (.agg #[.slice none 0 0, .bool false]) (l.length * 2)).toArray 39) := ⟨_, rfl⟩
      have U3 : Hid (Upd [] wx W3) := by show Upd _ _ _; rw [hW3]; exact Upd.alloc _ _ _
      rw [← hW3, ← hbT] at SB0 ⊢
      have SB0h : Hid _ := SB0
      have hTx : wx.heap.size ≤ bT := by omega
      clear hW3 hmk a0 SB0 hbT
      go_wp2_with fail
      refine wp_loopC [none, none, none, none, none, none, none, none, none, none, none, none, some none, some none, some none, some none, some none, some none, none, none, none, none, none, none, none, none, none, none, none, none, none, none, none, none, none, none, none, none, none, none, none, none, none, none, none, none, none, none, none, none, none, none, none, none, none, none, none, none, none, none, none, none, none, none, none, none, none, none, none, none, none, none, none, none, none, none, none, none, none, none, some (some false), some none, some none, some none, some none, some none, some none, some none, some none, some none, some none, some none, some none, some none, some none, some none, some none, some none, some none, some none, some none, some none, some none, some none, some none, some none, some none, some none, some none, some none, some none, some none, some none, some none, some none, some none, some none, some none, some none, some none, some none, some none, some none, some none, some none, some none, some none, some none, some none, some none, some none, some none, some none, some none, some none, some none, some none, some none, some none, none, none, none, none, none, none, none, none, none, none, none, none, none, none, none, none, none, none, none, none, none, none, none, none, none, none, none, none, none, none, none, none, none, none, none, none, none, none, none, none, none, none, none, none, none, none, none, none, none, none, none, none, none, none, none, none, none, none, none, none, none, none, none, none, none, none, none, none, none, none, none, none, none, none, none, none, none, none, none, none, none, none, none, none, none, none, none, none, none, none, none, none, none, none, none, none, none, none, none, none, none, none, none, none, none, none, none, none, none, none, none, none, none, none, none, none, none, none, none, none, none, none, none, none, none, none, none, none, none, none, none, none, none, none, none, none, none, none, none, none, none, none, none, none, none, none, none, none, none, none, none, none, none, none, none, none, none, none, none, none, none, none, none, none, none, none, none, none, none, none, none, none, none, none, none, none, none, none, none, none, none, none, none, none, none, none, none, none, none] (fun nn tx _ wy => ∃ (k : Nat) (EB EC : Nat → Nat), k ≤ l.length ∧ nn = l.length - k ∧ tx = .int .i64 k ∧ SB wy bT l.length EB EC ((l.take k).map txR) ∧ Upd [] wx wy ∧ ∀ (k' : Nat) (t' : Tx), ((l.take k).map txR)[k']? = some t' → t'.evs ≠ [] → wx.heap.size ≤ EB k') l.length (.int .i64 0) undef rfl ⟨0, _, _, by omega, by omega, rfl, SB0h.out, U3.out, fun k' t' h => by simp at h⟩ ?_
      intro n4 uv x4 y4 wy J4 K4 hrel hJ4 hK4
      obtain ⟨k, EB, EC, hk1, rfl, rfl, h1, h2, h3⟩ := hrel
      have HJ4 : Hid _ := hJ4
      have SBH : Hid (SB wy bT l.length EB EC ((l.take k).map txR)) := h1
      have UY : Hid (Upd [] wx wy) := h2
      have EBH : Hid (∀ (k' : Nat) (t' : Tx), ((l.take k).map txR)[k']? = some t' → t'.evs ≠ [] → wx.heap.size ≤ EB k') := h3
      clear hJ4 h1 h2 h3 SB0h U3
      dsimp only [fillC, Nat.reduceAdd]
      by_cases hltk : k < l.length
      · as_aux_lemma =>
        obtain ⟨t, ht⟩ := has_at l hltk
        obtain ⟨bB, oB, ea2, ec2, hea2, a1, a2, av2, hml2, hno2⟩ := AV.out.at_ k t ht
        injection hea2 with hea2
        subst hea2
        have BY : Hid (Below w.heap.size w wy) := RBH.out.bel.trans (UY.out.below RBH.out.bel.size (by simp))
        have a1 := cell_bel BY.out a1
        have a2 := cell_bel BY.out a2
        have TK : Hid (l[k]? = some t) := ht
        have AV2 : Hid _ := av2
        have h64 := H64.out t (List.mem_of_getElem? ht)
        have hbT' : bT < wy.heap.size := by obtain ⟨xs, hx⟩ := SBH.out.row; exact hx.lt bT (by simp)
        have hxy := UY.out.size
        clear ht av2 hml2
        rcases hno2 with ⟨rfl, hn2, rfl⟩ | ⟨xf, rfl⟩
        · as_aux_lemma =>
          have hev : t.evs = [] := List.length_eq_zero_iff.mp hn2
          rw [hn2] at a2
          go_upto_region 31 with fail
          obtain ⟨b13, hb13⟩ : ∃ z, z = wy.heap.size := ⟨_, rfl⟩
          obtain ⟨W4, hW4⟩ : ∃ z : World, z = wy.alloc (.cells #[.bool t.com, .slice none 0 0] 26) := ⟨_, rfl⟩
          have U4 : Upd [] wy W4 := by rw [hW4]; exact Upd.alloc _ _ _
          have k13 : Blk W4 b13 26 #[.bool t.com, .slice none 0 0] := by rw [hW4, hb13]; exact Blk.new _ _ _
          have m1 : W4.cell? ⟨b13, 1, none⟩ = some (.slice none 0 0) := k13.cell 1
          have T4 : Hid (Blk W4 b13 26 #[.bool t.com, .slice none 0 0]) := k13
          have SB4 : Hid (SB W4 bT l.length EB EC ((l.take k).map txR)) := SBH.out.keep U4 (by simp) (fun _ _ _ _ => by simp)
          have UX4 : Hid (Upd [] wx W4) := UY.out.trans U4 (by simp)
          have GEE : Hid ((txR t).evs ≠ [] → wx.heap.size ≤ 0) := fun h => absurd (by simp [txR, hev]) h
          have HEV : Hid (t.evs = []) := hev
          rw [← hW4, ← hb13]
          clear hW4 hb13 U4 k13 a1 a2 hev
          go_wp2_with fail
          clear m1
          refine wp_loopC [none, none, none, none, none, none, none, none, none, none, none, none, none, none, none, some none, some none, some none, none, none, none, none, none, none, none, none, none, none, none, none, none, none, none, none, none, none, none, none, none, none, none, none, none, none, none, none, none, none, none, none, none, none, none, none, none, none, none, none, none, none, none, none, none, none, none, none, none, none, none, none, none, none, none, none, none, none, none, none, none, none, none, none, none, none, none, none, none, none, none, none, none, none, none, none, none, some (some false), some none, some none, some none, some none, some none, some none, some none, some none, some none, some none, some none, some none, some none, some none, some none, some none, some none, some none, some none, some none, some none, some none, some none, some none, some none, some none, some none, some none, some none, some none, some none, some none, some none, some none, some none, none, none, none, none, none, none, none, none, none, none, none, none, none, none, none, none, none, none, none, none, none, none, none, none, none, none, none, none, none, none, none, none, none, none, none, none, none, none, none, none, none, none, none, none, none, none, none, none, none, none, none, none, none, none, none, none, none, none, none, none, none, none, none, none, none, none, none, none, none, none, none, none, none, none, none, none, none, none, none, none, none, none, none, none, none, none, none, none, none, none, none, none, none, none, none, none, none, none, none, none, none, none, none, none, none, none, none, none, none, none, none, none, none, none, none, none, none, none, none, none, none, none, none, none, none, none, none, none, none, none, none, none, none, none, none, none, none, none, none, none, none, none, none, none, none, none, none, none, none, none, none, none, none, none, none, none, none, none, none, none, none, none, none, none, none, none, none, none, none, none, none, none, none, none, none, none, none, none, none, none, none, none, none, none, none, none, none, none, none, none, none, none, none, none, none, none, none] (fun nn tx _ wz => tx = .int .i64 0 ∧ wz = W4) 0 (.int .i64 0) undef rfl ⟨rfl, rfl⟩ ?_
          intro n5 uw x5 y5 wz J5 K5 hrel hJ5 hK5
          obtain ⟨rfl, rfl⟩ := hrel
          clear hJ5
          dsimp only [fillC, Nat.reduceAdd]
          obtain ⟨⟨c0, y0⟩, f0⟩ := SB4.out.slot (j := k * 2) (by omega)
          obtain ⟨⟨c1, y1⟩, f1⟩ := SB4.out.slot (j := k * 2 + 1) (by omega)
          have cm : wz.cell? ⟨b13, 0, none⟩ = some (.bool t.com) := T4.out.cell 0
          go_upto_region 40 with fail
          obtain ⟨W5, hW5⟩ : ∃ z : World, z = (wz.setCell ⟨bT, k * 2, none⟩ (.slice none 0 0)).setCell ⟨bT, k * 2 + 1, none⟩ (.bool t.com) := ⟨_, rfl⟩
          rw [← hW5]
          have U5 : Hid (Upd [] wx W5) := by
            show Upd _ _ _
            rw [hW5]
            exact ((UX4.out).trans (Upd.store _ _ _ _) (fun q hq => .inr (by simp at hq; omega))).trans (Upd.store _ _ _ _) (fun q hq => .inr (by simp at hq; omega))
          have S5 : Hid (SB W5 bT l.length (setF EB k 0) (setF EC k 0) ((l.take (k + 1)).map txR)) := by
            show SB _ _ _ _ _ _
            have hlk : ((l.take k).map txR).length = k := by simp; omega
            have q := SB.put SB4.out (txR t) none 0 0 (fun e v j u h => by simp [txR, HEV.out] at h) (fun h => absurd (by simp [txR, HEV.out]) h) (by rw [hlk]; exact hltk)
            rw [hlk] at q
            rw [txs_snoc TK.out, hW5]
            simpa [txR, HEV.out] using q
          have E5 : Hid (∀ (k' : Nat) (t' : Tx), ((l.take (k + 1)).map txR)[k']? = some t' → t'.evs ≠ [] → wx.heap.size ≤ setF EB k 0 k') := fun k' t' h1 h2 => by
            rw [txs_snoc TK.out] at h1
            have hlk : ((l.take k).map txR).length = k := by simp; omega
            rcases snoc_at h1 with h3 | ⟨h3, h4⟩
            · have := (List.getElem?_eq_some_iff.mp h3).1
              simp only [setF, if_neg (show ¬ k' = k by omega)]
              exact EBH.out k' t' h3 h2
            · rw [hlk] at h3
              subst h3 h4
              simp only [setF, if_pos]
              exact GEE.out h2
          clear hW5 y0 y1 f0 f1 cm
          go_wp2_with fail
          refine Met.intro ?_
          refine HJ4.out _ _ ?_
          refine EndC.of (l.length - (k + 1)) (.int .i64 (((k : Int) + 1) : Int)) undef ?_ (by omega) ?_
          · rfl
          exact ⟨k + 1, setF EB k 0, setF EC k 0, by omega, rfl, by go_num, S5.out, U5.out, E5.out⟩
        · as_aux_lemma =>
          obtain ⟨n, hn⟩ : ∃ z, z = t.evs.length := ⟨_, rfl⟩
          have HN : Hid (n = t.evs.length) := hn
          rw [← hn] at a2 h64
          have hmk : (Instr.makeSlice 31 (.int .i64 n) (.int .i64 n)).run Ybaz.prog (wy.alloc (.cells #[.bool t.com, .slice (some xf) n ec2] 26)) = .ok (.slice (some ⟨(wy.alloc (.cells #[.bool t.com, .slice (some xf) n ec2] 26)).heap.size, 0, none⟩) n n) ((wy.alloc (.cells #[.bool t.com, .slice (some xf) n ec2] 26)).alloc (.cells (zeros (.agg #[.int .u8 0, .int .u64 0, .int .u64 0, .bool false]) (n * 4)).toArray 37)) := mkEvs.made n n (by omega) (by omega) (by decide) _
          have RW0 := RowAt.made (wy.alloc (.cells #[.bool t.com, .slice (some xf) n ec2] 26)) n (by omega)
          simp only [World.size_alloc] at hmk RW0
          clear hn
          go_upto_region 31 with fail
          obtain ⟨W4, hW4⟩ : ∃ z : World, z = (wy.alloc (.cells #[.bool t.com, .slice (some xf) n ec2] 26)).alloc (.cells (zeros (.agg #[.int .u8 0, .int .u64 0, .int .u64 0, .bool false]) (n * 4)).toArray 37) := ⟨_, rfl⟩
          obtain ⟨b13, hb13⟩ : ∃ z, z = wy.heap.size := ⟨_, rfl⟩
          obtain ⟨bE, hbE⟩ : ∃ z, z = wy.heap.size + 1 := ⟨_, rfl⟩
          have U4 : Upd [] wy W4 := by rw [hW4]; exact (Upd.alloc [] _ _).trans (Upd.alloc [] _ _) (by simp)
          have k13 : Blk W4 b13 26 #[.bool t.com, .slice (some xf) n ec2] := by rw [hW4, hb13]; exact Blk.keep (Blk.new _ _ _) (Upd.alloc [] _ _) (by simp)
          rw [← hW4] at RW0 ⊢
          rw [← hbE] at RW0
          try rw [← hbE]
          rw [← hb13]
          have m1 : W4.cell? ⟨b13, 1, none⟩ = some (.slice (some xf) n ec2) := k13.cell 1
          have T4 : Hid (Blk W4 b13 26 #[.bool t.com, .slice (some xf) n ec2]) := k13
          have UY4 : Hid (Upd [] wy W4) := U4
          have RW : Hid (RowAt bE n [] W4) := RW0
          have hE13 : bE ≠ b13 := by omega
          have hEy : wy.heap.size ≤ bE := by omega
          have hETx : bE ≠ bT := by omega
          clear hW4 hb13 hbE U4 k13 a1 a2 hmk RW0
          go_wp2_with fail
          clear m1
          refine wp_loopC [none, none, none, none, none, none, none, none, none, none, none, none, none, none, none, some none, some none, some none, none, none, none, none, none, none, none, none, none, none, none, none, none, none, none, none, none, none, none, none, none, none, none, none, none, none, none, none, none, none, none, none, none, none, none, none, none, none, none, none, none, none, none, none, none, none, none, none, none, none, none, none, none, none, none, none, none, none, none, none, none, none, none, none, none, none, none, none, none, none, none, none, none, none, none, none, none, some (some false), some none, some none, some none, some none, some none, some none, some none, some none, some none, some none, some none, some none, some none, some none, some none, some none, some none, some none, some none, some none, some none, some none, some none, some none, some none, some none, some none, some none, some none, some none, some none, some none, some none, some none, some none, none, none, none, none, none, none, none, none, none, none, none, none, none, none, none, none, none, none, none, none, none, none, none, none, none, none, none, none, none, none, none, none, none, none, none, none, none, none, none, none, none, none, none, none, none, none, none, none, none, none, none, none, none, none, none, none, none, none, none, none, none, none, none, none, none, none, none, none, none, none, none, none, none, none, none, none, none, none, none, none, none, none, none, none, none, none, none, none, none, none, none, none, none, none, none, none, none, none, none, none, none, none, none, none, none, none, none, none, none, none, none, none, none, none, none, none, none, none, none, none, none, none, none, none, none, none, none, none, none, none, none, none, none, none, none, none, none, none, none, none, none, none, none, none, none, none, none, none, none, none, none, none, none, none, none, none, none, none, none, none, none, none, none, none, none, none, none, none, none, none, none, none, none, none, none, none, none, none, none, none, none, none, none, none, none, none, none, none, none, none, none, none, none, none, none, none, none] (fun nn tx _ wz => ∃ (e : Nat), e ≤ n ∧ nn = n - e ∧ tx = .int .i64 e ∧ RowAt bE n ((t.evs.take e).map evR) wz ∧ Upd [] wy wz ∧ Blk wz b13 26 #[.bool t.com, .slice (some xf) n ec2]) n (.int .i64 0) undef rfl ⟨0, by omega, by omega, rfl, RW.out, UY4.out, T4.out⟩ ?_
          intro n5 uw x5 y5 wz J5 K5 hrel hJ5 hK5
          obtain ⟨e, he1, rfl, rfl, h1, h2, h3⟩ := hrel
          have HJ5 : Hid _ := hJ5
          have RZ : Hid (RowAt bE n ((t.evs.take e).map evR) wz) := h1
          have UZ : Hid (Upd [] wy wz) := h2
          have TZ : Hid (Blk wz b13 26 #[.bool t.com, .slice (some xf) n ec2]) := h3
          clear hJ5 h1 h2 h3 RW UY4 T4
          dsimp only [fillC, Nat.reduceAdd]
          by_cases hlte : e < n
          · as_aux_lemma =>
            obtain ⟨r, hr⟩ := has_at t.evs (k := e) (by have := HN.out; omega)
            obtain ⟨bC, oC, hea3, p0, p1, p2, p3, hx0, hx1, hx2⟩ := AV2.out.at_ e r hr
            injection hea3 with hea3
            subst hea3
            have BZ := BY.out.trans (UZ.out.below BY.out.size (by simp))
            have p0 := cell_bel BZ p0
            have p1 := cell_bel BZ p1
            have p2 := cell_bel BZ p2
            have p3 := cell_bel BZ p3
            have RK : Hid (t.evs[e]? = some r) := hr
            clear hr BZ
            go_upto_region 34 with fail
            obtain ⟨b16, hb16⟩ : ∃ z, z = wz.heap.size := ⟨_, rfl⟩
            obtain ⟨W1, hW1⟩ : ∃ z : World, z = wz.alloc (.cells #[.int .u8 r.k, .int .u8 r.x, .int .u8 r.v, .bool r.i] 33) := ⟨_, rfl⟩
            have U1 : Upd [] wz W1 := by rw [hW1]; exact Upd.alloc _ _ _
            have k16 : Blk W1 b16 33 #[.int .u8 r.k, .int .u8 r.x, .int .u8 r.v, .bool r.i] := by rw [hW1, hb16]; exact Blk.new _ _ _
            rw [← hW1, ← hb16]
            have x0 : W1.cell? ⟨b16, 0, none⟩ = some (.int .u8 r.k) := k16.cell 0
            have x1 : W1.cell? ⟨b16, 1, none⟩ = some (.int .u8 r.x) := k16.cell 1
            have x2 : W1.cell? ⟨b16, 2, none⟩ = some (.int .u8 r.v) := k16.cell 2
            have x3 : W1.cell? ⟨b16, 3, none⟩ = some (.bool r.i) := k16.cell 3
            have R1 : Hid (RowAt bE n ((t.evs.take e).map evR) W1) := RowAt.keep RZ.out U1 (by simp)
            have UY1 : Hid (Upd [] wy W1) := UZ.out.trans U1 (by simp)
            have T1 : Hid (Blk W1 b13 26 #[.bool t.com, .slice (some ⟨bC, oC, none⟩) n ec2]) := TZ.out.keep U1 (by simp)
            obtain ⟨y, hy⟩ : ∃ z, z = r.x % 3 := ⟨_, rfl⟩
            obtain ⟨z8, hz8⟩ : ∃ z, z = r.v % 8 := ⟨_, rfl⟩
            have HY : Hid (y = r.x % 3) := hy
            have HZ : Hid (z8 = r.v % 8) := hz8
            have g3 : ((r.x : Int) % 3) = (y : Int) := by omega
            have g8 : ((r.v : Int) % 8) = (z8 : Int) := by omega
            have hy3 : y < 3 := by omega
            have hz9 : z8 < 8 := by omega
            have hlk : ((t.evs.take e).map evR).length = e := by simp; have := HN.out; omega
            obtain ⟨⟨c0, q0⟩, f0⟩ := R1.out.cell (j := e * 4) (by omega)
            obtain ⟨⟨c1, q1⟩, f1⟩ := R1.out.cell (j := e * 4 + 1) (by omega)
            obtain ⟨⟨c2, q2⟩, f2⟩ := R1.out.cell (j := e * 4 + 2) (by omega)
            obtain ⟨⟨c3, q3⟩, f3⟩ := R1.out.cell (j := e * 4 + 3) (by omega)
            have HF : Hid (∀ (x : Ev), evR r = x → ∀ (w9 : World), w9 = ((((W1.setCell ⟨bE, e * 4, none⟩ (.int .u8 x.k)).setCell ⟨bE, e * 4 + 1, none⟩ (.int .u64 x.x)).setCell ⟨bE, e * 4 + 2, none⟩ (.int .u64 x.v)).setCell ⟨bE, e * 4 + 3, none⟩ (.bool x.i)) → Upd [] wy w9 ∧ RowAt bE n ((t.evs.take (e + 1)).map evR) w9 ∧ Blk w9 b13 26 #[.bool t.com, .slice (some ⟨bC, oC, none⟩) n ec2]) := by
              rintro x hx w9 rfl
              obtain ⟨r1, r2⟩ := R1.out.put (by omega) x
              rw [hlk] at r1 r2
              refine ⟨UY1.out.trans r2 (fun q hq => .inr (by simp at hq; omega)), ?_, T1.out.keep r2 (by simpa using hE13.symm)⟩
              rw [evs_snoc RK.out, hx]
              exact r1
            clear hW1 hb16 U1 k16 p0 p1 p2 p3 hy hz8 hlk RZ UZ TZ
            by_cases hk255 : r.k = 255
            · have HKD : Hid (kdOf r.k = 2) := by show _ = _; simp [kdOf, hk255]
              rw [hk255] at x0
              clear hk255
              cases hi : r.i with
              | false =>
                rw [hi] at x3
                have EVX : Hid (evR r = ⟨2, y, z8, false⟩) := by show _ = _; simp [evR, HKD.out, ← HY.out, ← HZ.out, hi]
                clear hi
                as_aux_lemma =>
                have EV : Hid (evR r = ⟨2, y, z8, false⟩) := EVX.out
                clear EVX
                go_upto_region 38 with fail
                obtain ⟨W2, hW2⟩ : ∃ z : World, z = ((((W1.setCell ⟨bE, e * 4, none⟩ (.int .u8 2)).setCell ⟨bE, e * 4 + 1, none⟩ (.int .u64 y)).setCell ⟨bE, e * 4 + 2, none⟩ (.int .u64 z8)).setCell ⟨bE, e * 4 + 3, none⟩ (.bool false)) := ⟨_, rfl⟩
                rw [← hW2]
                obtain ⟨h1, h2, h3⟩ := HF.out ⟨2, y, z8, false⟩ EV.out W2 hW2
                have H2 : Hid _ := h1
                have R2 : Hid _ := h2
                have T2 : Hid _ := h3
                clear h1 h2 h3 hW2 x0 x1 x2 x3 q0 q1 q2 q3
                go_wp2_with fail
                refine Met.intro ?_
                refine HJ5.out _ _ ?_
                refine EndC.of (n - (e + 1)) (.int .i64 (((e : Int) + 1) : Int)) undef ?_ (by omega) ?_
                · rfl
                exact ⟨e + 1, by omega, rfl, by go_num, R2.out, H2.out, T2.out⟩
              | true =>
                rw [hi] at x3
                by_cases hv7 : r.v = 7
                · have g7 : (((r.v : Nat) : Int) == 7) = true := by simp; omega
                  have h78 : z8 = 7 := by have := HZ.out; omega
                  have EVX : Hid (evR r = ⟨2, y, z8, true⟩) := by show _ = _; simp [evR, HKD.out, ← HY.out, hi, hv7, h78]
                  clear h78
                  clear hi hv7
                  as_aux_lemma =>
                  have EV : Hid (evR r = ⟨2, y, z8, true⟩) := EVX.out
                  clear EVX
                  go_upto_region 38 with fail
                  obtain ⟨W2, hW2⟩ : ∃ z : World, z = ((((W1.setCell ⟨bE, e * 4, none⟩ (.int .u8 2)).setCell ⟨bE, e * 4 + 1, none⟩ (.int .u64 y)).setCell ⟨bE, e * 4 + 2, none⟩ (.int .u64 z8)).setCell ⟨bE, e * 4 + 3, none⟩ (.bool true)) := ⟨_, rfl⟩
                  rw [← hW2]
                  obtain ⟨h1, h2, h3⟩ := HF.out ⟨2, y, z8, true⟩ EV.out W2 hW2
                  have H2 : Hid _ := h1
                  have R2 : Hid _ := h2
                  have T2 : Hid _ := h3
                  clear h1 h2 h3 hW2 x0 x1 x2 x3 q0 q1 q2 q3
                  go_wp2_with fail
                  refine Met.intro ?_
                  refine HJ5.out _ _ ?_
                  refine EndC.of (n - (e + 1)) (.int .i64 (((e : Int) + 1) : Int)) undef ?_ (by omega) ?_
                  · rfl
                  exact ⟨e + 1, by omega, rfl, by go_num, R2.out, H2.out, T2.out⟩
                · have g7 : (((r.v : Nat) : Int) == 7) = false := by simp; omega
                  have EVX : Hid (evR r = ⟨2, y, z8, false⟩) := by show _ = _; simp [evR, HKD.out, ← HY.out, ← HZ.out, hi, hv7]
                  clear hi hv7
                  as_aux_lemma =>
                  have EV : Hid (evR r = ⟨2, y, z8, false⟩) := EVX.out
                  clear EVX
                  go_upto_region 38 with fail
                  obtain ⟨W2, hW2⟩ : ∃ z : World, z = ((((W1.setCell ⟨bE, e * 4, none⟩ (.int .u8 2)).setCell ⟨bE, e * 4 + 1, none⟩ (.int .u64 y)).setCell ⟨bE, e * 4 + 2, none⟩ (.int .u64 z8)).setCell ⟨bE, e * 4 + 3, none⟩ (.bool false)) := ⟨_, rfl⟩
                  rw [← hW2]
                  obtain ⟨h1, h2, h3⟩ := HF.out ⟨2, y, z8, false⟩ EV.out W2 hW2
                  have H2 : Hid _ := h1
                  have R2 : Hid _ := h2
                  have T2 : Hid _ := h3
                  clear h1 h2 h3 hW2 x0 x1 x2 x3 q0 q1 q2 q3
                  go_wp2_with fail
                  refine Met.intro ?_
                  refine HJ5.out _ _ ?_
                  refine EndC.of (n - (e + 1)) (.int .i64 (((e : Int) + 1) : Int)) undef ?_ (by omega) ?_
                  · rfl
                  exact ⟨e + 1, by omega, rfl, by go_num, R2.out, H2.out, T2.out⟩
            · have g5 : (((r.k : Nat) : Int) == 255) = false := by simp; omega
              by_cases hk0 : r.k % 2 = 0
              · have HKD : Hid (kdOf r.k = 0) := by show _ = _; simp [kdOf, hk255, hk0]
                have g2 : ((r.k : Int) % 2) = 0 := by omega
                clear hk255 hk0
                cases hi : r.i with
                | false =>
                  rw [hi] at x3
                  have EVX : Hid (evR r = ⟨0, y, z8, false⟩) := by show _ = _; simp [evR, HKD.out, ← HY.out, ← HZ.out, hi]
                  clear hi
                  as_aux_lemma =>
                  have EV : Hid (evR r = ⟨0, y, z8, false⟩) := EVX.out
                  clear EVX
                  go_upto_region 38 with fail
                  obtain ⟨W2, hW2⟩ : ∃ z : World, z = ((((W1.setCell ⟨bE, e * 4, none⟩ (.int .u8 0)).setCell ⟨bE, e * 4 + 1, none⟩ (.int .u64 y)).setCell ⟨bE, e * 4 + 2, none⟩ (.int .u64 z8)).setCell ⟨bE, e * 4 + 3, none⟩ (.bool false)) := ⟨_, rfl⟩
                  rw [← hW2]
                  obtain ⟨h1, h2, h3⟩ := HF.out ⟨0, y, z8, false⟩ EV.out W2 hW2
                  have H2 : Hid _ := h1
                  have R2 : Hid _ := h2
                  have T2 : Hid _ := h3
                  clear h1 h2 h3 hW2 x0 x1 x2 x3 q0 q1 q2 q3
                  go_wp2_with fail
                  refine Met.intro ?_
                  refine HJ5.out _ _ ?_
                  refine EndC.of (n - (e + 1)) (.int .i64 (((e : Int) + 1) : Int)) undef ?_ (by omega) ?_
                  · rfl
                  exact ⟨e + 1, by omega, rfl, by go_num, R2.out, H2.out, T2.out⟩
                | true =>
                  rw [hi] at x3
                  by_cases hv7 : r.v = 7
                  · have g7 : (((r.v : Nat) : Int) == 7) = true := by simp; omega
                    have h78 : z8 = 7 := by have := HZ.out; omega
                    have EVX : Hid (evR r = ⟨0, y, z8, true⟩) := by show _ = _; simp [evR, HKD.out, ← HY.out, hi, hv7, h78]
                    clear h78
                    clear hi hv7
                    as_aux_lemma =>
                    have EV : Hid (evR r = ⟨0, y, z8, true⟩) := EVX.out
                    clear EVX
                    go_upto_region 38 with fail
                    obtain ⟨W2, hW2⟩ : ∃ z : World, z = ((((W1.setCell ⟨bE, e * 4, none⟩ (.int .u8 0)).setCell ⟨bE, e * 4 + 1, none⟩ (.int .u64 y)).setCell ⟨bE, e * 4 + 2, none⟩ (.int .u64 z8)).setCell ⟨bE, e * 4 + 3, none⟩ (.bool true)) := ⟨_, rfl⟩
                    rw [← hW2]
                    obtain ⟨h1, h2, h3⟩ := HF.out ⟨0, y, z8, true⟩ EV.out W2 hW2
                    have H2 : Hid _ := h1
                    have R2 : Hid _ := h2
                    have T2 : Hid _ := h3
                    clear h1 h2 h3 hW2 x0 x1 x2 x3 q0 q1 q2 q3
                    go_wp2_with fail
                    refine Met.intro ?_
                    refine HJ5.out _ _ ?_
                    refine EndC.of (n - (e + 1)) (.int .i64 (((e : Int) + 1) : Int)) undef ?_ (by omega) ?_
                    · rfl
                    exact ⟨e + 1, by omega, rfl, by go_num, R2.out, H2.out, T2.out⟩
                  · have g7 : (((r.v : Nat) : Int) == 7) = false := by simp; omega
                    have EVX : Hid (evR r = ⟨0, y, z8, true⟩) := by show _ = _; simp [evR, HKD.out, ← HY.out, ← HZ.out, hi]
                    clear hi hv7
                    as_aux_lemma =>
                    have EV : Hid (evR r = ⟨0, y, z8, true⟩) := EVX.out
                    clear EVX
                    go_upto_region 38 with fail
                    obtain ⟨W2, hW2⟩ : ∃ z : World, z = ((((W1.setCell ⟨bE, e * 4, none⟩ (.int .u8 0)).setCell ⟨bE, e * 4 + 1, none⟩ (.int .u64 y)).setCell ⟨bE, e * 4 + 2, none⟩ (.int .u64 z8)).setCell ⟨bE, e * 4 + 3, none⟩ (.bool true)) := ⟨_, rfl⟩
                    rw [← hW2]
                    obtain ⟨h1, h2, h3⟩ := HF.out ⟨0, y, z8, true⟩ EV.out W2 hW2
                    have H2 : Hid _ := h1
                    have R2 : Hid _ := h2
                    have T2 : Hid _ := h3
                    clear h1 h2 h3 hW2 x0 x1 x2 x3 q0 q1 q2 q3
                    go_wp2_with fail
                    refine Met.intro ?_
                    refine HJ5.out _ _ ?_
                    refine EndC.of (n - (e + 1)) (.int .i64 (((e : Int) + 1) : Int)) undef ?_ (by omega) ?_
                    · rfl
                    exact ⟨e + 1, by omega, rfl, by go_num, R2.out, H2.out, T2.out⟩
              · have HKD : Hid (kdOf r.k = 1) := by show _ = _; simp [kdOf, hk255]; omega
                have g2 : ((r.k : Int) % 2) = 1 := by omega
                clear hk255 hk0
                cases hi : r.i with
                | false =>
                  rw [hi] at x3
                  have EVX : Hid (evR r = ⟨1, y, z8, false⟩) := by show _ = _; simp [evR, HKD.out, ← HY.out, ← HZ.out, hi]
                  clear hi
                  as_aux_lemma =>
                  have EV : Hid (evR r = ⟨1, y, z8, false⟩) := EVX.out
                  clear EVX
                  go_upto_region 38 with fail
                  obtain ⟨W2, hW2⟩ : ∃ z : World, z = ((((W1.setCell ⟨bE, e * 4, none⟩ (.int .u8 1)).setCell ⟨bE, e * 4 + 1, none⟩ (.int .u64 y)).setCell ⟨bE, e * 4 + 2, none⟩ (.int .u64 z8)).setCell ⟨bE, e * 4 + 3, none⟩ (.bool false)) := ⟨_, rfl⟩
                  rw [← hW2]
                  obtain ⟨h1, h2, h3⟩ := HF.out ⟨1, y, z8, false⟩ EV.out W2 hW2
                  have H2 : Hid _ := h1
                  have R2 : Hid _ := h2
                  have T2 : Hid _ := h3
                  clear h1 h2 h3 hW2 x0 x1 x2 x3 q0 q1 q2 q3
                  go_wp2_with fail
                  refine Met.intro ?_
                  refine HJ5.out _ _ ?_
                  refine EndC.of (n - (e + 1)) (.int .i64 (((e : Int) + 1) : Int)) undef ?_ (by omega) ?_
                  · rfl
                  exact ⟨e + 1, by omega, rfl, by go_num, R2.out, H2.out, T2.out⟩
                | true =>
                  rw [hi] at x3
                  by_cases hv7 : r.v = 7
                  · have g7 : (((r.v : Nat) : Int) == 7) = true := by simp; omega
                    have h78 : z8 = 7 := by have := HZ.out; omega
                    have EVX : Hid (evR r = ⟨1, y, z8, true⟩) := by show _ = _; simp [evR, HKD.out, ← HY.out, hi, hv7, h78]
                    clear h78
                    clear hi hv7
                    as_aux_lemma =>
                    have EV : Hid (evR r = ⟨1, y, z8, true⟩) := EVX.out
                    clear EVX
                    go_upto_region 38 with fail
                    obtain ⟨W2, hW2⟩ : ∃ z : World, z = ((((W1.setCell ⟨bE, e * 4, none⟩ (.int .u8 1)).setCell ⟨bE, e * 4 + 1, none⟩ (.int .u64 y)).setCell ⟨bE, e * 4 + 2, none⟩ (.int .u64 z8)).setCell ⟨bE, e * 4 + 3, none⟩ (.bool true)) := ⟨_, rfl⟩
                    rw [← hW2]
                    obtain ⟨h1, h2, h3⟩ := HF.out ⟨1, y, z8, true⟩ EV.out W2 hW2
                    have H2 : Hid _ := h1
                    have R2 : Hid _ := h2
                    have T2 : Hid _ := h3
                    clear h1 h2 h3 hW2 x0 x1 x2 x3 q0 q1 q2 q3
                    go_wp2_with fail
                    refine Met.intro ?_
                    refine HJ5.out _ _ ?_
                    refine EndC.of (n - (e + 1)) (.int .i64 (((e : Int) + 1) : Int)) undef ?_ (by omega) ?_
                    · rfl
                    exact ⟨e + 1, by omega, rfl, by go_num, R2.out, H2.out, T2.out⟩
                  · have g7 : (((r.v : Nat) : Int) == 7) = false := by simp; omega
                    have EVX : Hid (evR r = ⟨1, y, z8, false⟩) := by show _ = _; simp [evR, HKD.out, ← HY.out, ← HZ.out, hi, hv7]
                    clear hi hv7
                    as_aux_lemma =>
                    have EV : Hid (evR r = ⟨1, y, z8, false⟩) := EVX.out
                    clear EVX
                    go_upto_region 38 with fail
                    obtain ⟨W2, hW2⟩ : ∃ z : World, z = ((((W1.setCell ⟨bE, e * 4, none⟩ (.int .u8 1)).setCell ⟨bE, e * 4 + 1, none⟩ (.int .u64 y)).setCell ⟨bE, e * 4 + 2, none⟩ (.int .u64 z8)).setCell ⟨bE, e * 4 + 3, none⟩ (.bool false)) := ⟨_, rfl⟩
                    rw [← hW2]
                    obtain ⟨h1, h2, h3⟩ := HF.out ⟨1, y, z8, false⟩ EV.out W2 hW2
                    have H2 : Hid _ := h1
                    have R2 : Hid _ := h2
                    have T2 : Hid _ := h3
                    clear h1 h2 h3 hW2 x0 x1 x2 x3 q0 q1 q2 q3
                    go_wp2_with fail
                    refine Met.intro ?_
                    refine HJ5.out _ _ ?_
                    refine EndC.of (n - (e + 1)) (.int .i64 (((e : Int) + 1) : Int)) undef ?_ (by omega) ?_
                    · rfl
                    exact ⟨e + 1, by omega, rfl, by go_num, R2.out, H2.out, T2.out⟩
          · as_aux_lemma =>
            have he2 : e = n := by omega
            have RE9 : Hid (EvsAt bE (t.evs.map evR) wz) := by
              have q := RZ.out
              rw [he2, HN.out, List.take_length] at q
              exact q.full (by simp)
            have SBZ : Hid (SB wz bT l.length EB EC ((l.take k).map txR)) := SBH.out.keep UZ.out (by simp) (fun _ _ _ _ => by simp)
            have UXZ : Hid (Upd [] wx wz) := UY.out.trans UZ.out (by simp)
            have GEE : Hid ((txR t).evs ≠ [] → wx.heap.size ≤ bE) := fun _ => by omega
            have HNL : Hid ((txR t).evs.length = n) := by show _ = _; rw [HN.out]; simp [txR]
            have CE9 : Hid (∀ (e : Nat) (v : Ev) (j : Nat) (u : Value), (txR t).evs[e]? = some v → v.cells[j]? = some u → wz.cell? ⟨bE, e * 4 + j, none⟩ = some u) := fun e v j u h1 h2 => by
              have hE : Sl wz 37 4 (some ⟨bE, 0, none⟩) (t.evs.map evR).length (t.evs.map evR).length [bE] ((t.evs.map evR).flatMap Ev.cells) := RE9.out
              have hel := (List.getElem?_eq_some_iff.mp h1).1
              have hj4 : j < 4 := (List.getElem?_eq_some_iff.mp h2).1
              obtain ⟨g, e1, _, _, e3, _⟩ := hE.has (by simp only [txR] at hel; omega)
              injection e1 with e1
              injection e1 with e1
              subst e1
              have h1' : (t.evs.map evR)[e]? = some v := h1
              rw [e3 (e * 4 + j) (by simp only [txR] at hel; omega), flat3 Ev.cells 4 (fun _ => rfl) _ e j v h1' hj4]
              exact h2
            clear he2
            obtain ⟨⟨c0, y0⟩, f0⟩ := SBZ.out.slot (j := k * 2) (by omega)
            obtain ⟨⟨c1, y1⟩, f1⟩ := SBZ.out.slot (j := k * 2 + 1) (by omega)
            have cm : wz.cell? ⟨b13, 0, none⟩ = some (.bool t.com) := TZ.out.cell 0
            go_upto_region 40 with fail
            obtain ⟨W5, hW5⟩ : ∃ z : World, z = (wz.setCell ⟨bT, k * 2, none⟩ (.slice (some ⟨bE, 0, none⟩) n n)).setCell ⟨bT, k * 2 + 1, none⟩ (.bool t.com) := ⟨_, rfl⟩
            rw [← hW5]
            have U5 : Hid (Upd [] wx W5) := by
              show Upd _ _ _
              rw [hW5]
              exact ((UXZ.out).trans (Upd.store _ _ _ _) (fun q hq => .inr (by simp at hq; omega))).trans (Upd.store _ _ _ _) (fun q hq => .inr (by simp at hq; omega))
            have S5 : Hid (SB W5 bT l.length (setF EB k bE) (setF EC k n) ((l.take (k + 1)).map txR)) := by
              show SB _ _ _ _ _ _
              have hlk : ((l.take k).map txR).length = k := by simp; omega
              have q := SB.put SBZ.out (txR t) (some ⟨bE, 0, none⟩) bE n CE9.out (fun _ => ⟨rfl, hETx⟩) (by rw [hlk]; exact hltk)
              rw [hlk] at q
              rw [txs_snoc TK.out, hW5]
              rw [HNL.out] at q; exact q
            have E5 : Hid (∀ (k' : Nat) (t' : Tx), ((l.take (k + 1)).map txR)[k']? = some t' → t'.evs ≠ [] → wx.heap.size ≤ setF EB k bE k') := fun k' t' h1 h2 => by
              rw [txs_snoc TK.out] at h1
              have hlk : ((l.take k).map txR).length = k := by simp; omega
              rcases snoc_at h1 with h3 | ⟨h3, h4⟩
              · have := (List.getElem?_eq_some_iff.mp h3).1
                simp only [setF, if_neg (show ¬ k' = k by omega)]
                exact EBH.out k' t' h3 h2
              · rw [hlk] at h3
                subst h3 h4
                simp only [setF, if_pos]
                exact GEE.out h2
            clear hW5 y0 y1 f0 f1 cm
            go_wp2_with fail
            refine Met.intro ?_
            refine HJ4.out _ _ ?_
            refine EndC.of (l.length - (k + 1)) (.int .i64 (((k : Int) + 1) : Int)) undef ?_ (by omega) ?_
            · rfl
            exact ⟨k + 1, setF EB k bE, setF EC k n, by omega, rfl, by go_num, S5.out, U5.out, E5.out⟩
      · as_aux_lemma =>
        have hk2 : k = l.length := by omega
        have SBE : Hid (SB wy bT (l.map txR).length EB EC (l.map txR)) := by
          show SB _ _ _ _ _ _
          have q := SBH.out
          rw [hk2, List.take_length] at q
          rw [List.length_map]
          exact q
        have EBE : Hid (∀ (k' : Nat) (t' : Tx), (l.map txR)[k']? = some t' → t'.evs ≠ [] → wx.heap.size ≤ EB k') := by
          have q := EBH.out
          rw [hk2, List.take_length] at q
          exact q
        have RBY := RBH.out.new UY.out
        have h0 : wy.cell? ⟨bH, 0, none⟩ = some (.slice (some ⟨bS, 0, none⟩) ss.length ss.length) := RBY.h.cell 0
        obtain ⟨⟨c0, y0⟩, f0⟩ := RBY.slot hlt
        have RN : Hid (RB w (wy.setCell ⟨bS, i, none⟩ (.slice (some ⟨bT, 0, none⟩) l.length l.length)) bH bS ss.length ⟨R.top, setF R.ses i bT, setF R.sc i l.length, fun s k => if s = i then EB k else R.evs s k, fun s k => if s = i then EC k else R.ec s k⟩ (hsR (ss.take (i + 1)))) := by
          show RB _ _ _ _ _ _ _
          have q := RBH.out.put UY.out SBE.out (by rw [hli.out]; exact hlt) hTx EBE.out
          rw [hli.out, List.length_map] at q
          rw [hsR_snoc LK.out]
          exact q
        clear hk2 RBY
        go_wp2_with fail
        refine Met.intro ?_
        refine HJ3.out _ _ ?_
        refine EndC.of (ss.length - (i + 1)) (.int .i64 (((i : Int) + 1) : Int)) undef ?_ (by omega) ?_
        · rfl
        exact ⟨i + 1, _, by omega, rfl, by go_num, RN.out⟩
  · as_aux_lemma =>
    have hi2 : i = ss.length := by omega
    have RE : Hid (RB w wx bH bS ss.length R (hsR ss)) := by have := RBH.out; rw [hi2, List.take_length] at this; exact this
    clear hi2
    go_wp2_with fail
    refine HKz.out _ _ ?_
    exact law43K w wx R (hsR ss) (some ⟨bS, 0, none⟩) ss.length (.inl (by rw [RE.out.hR])) KH.out RE.out.his FH.out.bnd bH (by rw [hsR_len]; exact RE.out.h) RE.out.bel
end Go.Proofs.YbulkctquGreatFmt

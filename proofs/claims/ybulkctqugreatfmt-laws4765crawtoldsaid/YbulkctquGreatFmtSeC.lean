/-
  settle: the ways in numbers of its own.
-/
import Derived.Test.YbulkctquGreatFmtSeD
import Derived.Test.YbulkctquGreatFmtOver
namespace Go.Proofs.YbulkctquGreatFmt
open Go.ChangeShapes Go.WideShapes Go.ChangeAt Go.RowKit Go.Ord
set_option linter.unusedVariables false
attribute [local go_sem ↓] Go.wp_at_zero Go.wp_at_succ
attribute [-go_sem] Go.Builtin.append_
attribute [-go_sem] Go.Instr.buildSlice

/-- The two ways of one choice while they are built. -/
structure WB (bA : Nat) (A0 A1 : Alt) (s0 s1 : SV) (f0 f1 : List Nat) (w : World) : Prop where
  blk : Blk w bA 162 #[.slice s0.a s0.n s0.c, .int .i64 A0.i, .slice s1.a s1.n s1.c, .int .i64 A1.i]
  r0 : Sl w 3 1 s0.a s0.n s0.c f0 (A0.f.map nI)
  r1 : Sl w 3 1 s1.a s1.n s1.c f1 (A1.f.map nI)
  nd : (bA :: (f0 ++ f1)).Nodup
theorem WB.keep {bA : Nat} {A0 A1 : Alt} {s0 s1 : SV} {f0 f1 : List Nat} {w w' : World} (h : WB bA A0 A1 s0 s1 f0 f1 w) {S : List Nat} (hu : Upd S w w') (hS : ∀ k ∈ bA :: (f0 ++ f1), k ∉ S) : WB bA A0 A1 s0 s1 f0 f1 w' :=
  ⟨Blk.keep h.blk hu (hS bA (by simp)), h.r0.keep hu (fun k hk => hS k (by simp [hk])), h.r1.keep hu (fun k hk => hS k (by simp [hk])), h.nd⟩
theorem WB.start (w : World) : WB w.heap.size ⟨[], 0⟩ ⟨[], 0⟩ ⟨none, 0, 0⟩ ⟨none, 0, 0⟩ [] [] (w.alloc (.cells #[.slice none 0 0, .int .i64 0, .slice none 0 0, .int .i64 0] 162)) :=
  ⟨Blk.new _ _ _, Sl.empty _ _ _, Sl.empty _ _ _, by simp⟩
theorem WB.into0 {bA : Nat} {A0 A1 : Alt} {s0 s1 : SV} {f0 f1 : List Nat} {w : World} (h : WB bA A0 A1 s0 s1 f0 f1 w) (x : Nat) : WB bA ⟨A0.f, x⟩ A1 s0 s1 f0 f1 (w.setCell ⟨bA, 1, none⟩ (.int .i64 x)) := by
  have hu := Upd.store w bA 1 (.int .i64 x)
  have nd := h.nd
  simp only [List.nodup_cons, List.mem_append, not_or] at nd
  refine ⟨?_, h.r0.keep hu (fun k hk hm => by simp at hm; subst hm; exact nd.1.1 hk), h.r1.keep hu (fun k hk hm => by simp at hm; subst hm; exact nd.1.2 hk), h.nd⟩
  have := Blk.store h.blk 1 (.int .i64 x)
  simpa using this
theorem WB.into1 {bA : Nat} {A0 A1 : Alt} {s0 s1 : SV} {f0 f1 : List Nat} {w : World} (h : WB bA A0 A1 s0 s1 f0 f1 w) (x : Nat) : WB bA A0 ⟨A1.f, x⟩ s0 s1 f0 f1 (w.setCell ⟨bA, 3, none⟩ (.int .i64 x)) := by
  have hu := Upd.store w bA 3 (.int .i64 x)
  have nd := h.nd
  simp only [List.nodup_cons, List.mem_append, not_or] at nd
  refine ⟨?_, h.r0.keep hu (fun k hk hm => by simp at hm; subst hm; exact nd.1.1 hk), h.r1.keep hu (fun k hk hm => by simp at hm; subst hm; exact nd.1.2 hk), h.nd⟩
  have := Blk.store h.blk 3 (.int .i64 x)
  simpa using this
theorem WB.from0 {bA : Nat} {A0 A1 : Alt} {s0 s1 : SV} {f0 f1 : List Nat} {w w1 : World} (h : WB bA A0 A1 s0 s1 f0 f1 w) {gX cX x : Nat} (r1 : Sl w1 3 1 (some ⟨gX, 0, none⟩) (s0.n + 1) cX [gX] (A0.f.map nI ++ [.int .i64 x])) (r2 : Upd f0 w w1) (r3 : gX ∈ f0 ∨ w.heap.size ≤ gX) :
    WB bA ⟨A0.f ++ [x], A0.i⟩ A1 ⟨some ⟨gX, 0, none⟩, s0.n + 1, cX⟩ s1 [gX] f1 (w1.setCell ⟨bA, 0, none⟩ (.slice (some ⟨gX, 0, none⟩) (s0.n + 1) cX)) := by
  have hu := Upd.store w1 bA 0 (.slice (some ⟨gX, 0, none⟩) (s0.n + 1) cX)
  have nd := h.nd
  simp only [List.nodup_cons, List.mem_append, List.nodup_append, not_or] at nd
  have lA : bA < w.heap.size := h.blk.lt
  have gA : gX ≠ bA := by
    rintro rfl
    rcases r3 with z | z
    · exact nd.1.1 z
    · omega
  have g1 : gX ∉ f1 := fun hm => by
    rcases r3 with z | z
    · exact nd.2.2.2 gX z gX hm rfl
    · have := h.r1.lt gX hm; omega
  refine ⟨?_, ?_, (h.r1.keep r2 (fun k hk hm => nd.2.2.2 k hm k hk rfl)).keep hu (fun k hk hm => by simp at hm; subst hm; exact nd.1.2 hk), ?_⟩
  · have := Blk.store (Blk.keep h.blk r2 nd.1.1) 0 (.slice (some ⟨gX, 0, none⟩) (s0.n + 1) cX)
    simpa using this
  · have := r1.keep hu (by simpa using gA)
    simpa [nI] using this
  · simp only [List.nodup_cons, List.mem_append, List.nodup_append, List.mem_singleton, not_or]
    exact ⟨⟨Ne.symm gA, nd.1.2⟩, by simp, nd.2.2.1, fun a ha b hb e => by subst ha; subst e; exact g1 hb⟩
theorem WB.from1 {bA : Nat} {A0 A1 : Alt} {s0 s1 : SV} {f0 f1 : List Nat} {w w1 : World} (h : WB bA A0 A1 s0 s1 f0 f1 w) {gX cX x : Nat} (r1 : Sl w1 3 1 (some ⟨gX, 0, none⟩) (s1.n + 1) cX [gX] (A1.f.map nI ++ [.int .i64 x])) (r2 : Upd f1 w w1) (r3 : gX ∈ f1 ∨ w.heap.size ≤ gX) :
    WB bA A0 ⟨A1.f ++ [x], A1.i⟩ s0 ⟨some ⟨gX, 0, none⟩, s1.n + 1, cX⟩ f0 [gX] (w1.setCell ⟨bA, 2, none⟩ (.slice (some ⟨gX, 0, none⟩) (s1.n + 1) cX)) := by
  have hu := Upd.store w1 bA 2 (.slice (some ⟨gX, 0, none⟩) (s1.n + 1) cX)
  have nd := h.nd
  simp only [List.nodup_cons, List.mem_append, List.nodup_append, not_or] at nd
  have lA : bA < w.heap.size := h.blk.lt
  have gA : gX ≠ bA := by
    rintro rfl
    rcases r3 with z | z
    · exact nd.1.2 z
    · omega
  have g0 : gX ∉ f0 := fun hm => by
    rcases r3 with z | z
    · exact nd.2.2.2 gX hm gX z rfl
    · have := h.r0.lt gX hm; omega
  refine ⟨?_, (h.r0.keep r2 (fun k hk hm => nd.2.2.2 k hk k hm rfl)).keep hu (fun k hk hm => by simp at hm; subst hm; exact nd.1.1 hk), ?_, ?_⟩
  · have := Blk.store (Blk.keep h.blk r2 nd.1.2) 2 (.slice (some ⟨gX, 0, none⟩) (s1.n + 1) cX)
    simpa using this
  · have := r1.keep hu (by simpa using gA)
    simpa [nI] using this
  · simp only [List.nodup_cons, List.mem_append, List.nodup_append, List.mem_singleton, not_or]
    exact ⟨⟨nd.1.1, Ne.symm gA⟩, nd.2.1, by simp, fun a ha b hb e => by subst hb; subst e; exact g0 ha⟩
theorem ix0 (a b c d : Value) (w : World) : (Instr.index 162 (.agg #[a, b, c, d]) (.int .i64 0)).run Ybaz.prog w = .ok (.agg #[a, b]) w := by kernel_rfl
theorem ix1 (a b c d : Value) (w : World) : (Instr.index 162 (.agg #[a, b, c, d]) (.int .i64 1)).run Ybaz.prog w = .ok (.agg #[c, d]) w := by kernel_rfl
noncomputable def se18 : Code := ((Ybaz.f67.body.bind (fromReg 18)).getD .skip)
set_option maxHeartbeats 16000000 in
set_option maxRecDepth 100000 in
theorem set18 {u4 u5 u6 u7 u11 u12 u13 u14 u15 u16 u17 u18 u19 u20 u21 u22 u23 u24 u25 u26 u27 u28 u29 u30 u31 u32 u33 u34 u35 u36 u37 u38 u39 u40 u41 u42 u43 u44 u45 u46 u47 u48 u49 u50 u51 u52 u53 u54 u55 u56 u57 u58 u59 u60 u61 u62 u63 u64 u65 u66 u67 u68 u69 u70 u71 u72 u73 u74 u75 u76 u77 u78 u79 u80 u81 u82 u83 u84 u85 u86 u87 u88 u89 u90 u91 u92 u93 u94 u95 u96 u97 u98 u99 u100 u101 u102 u103 u104 u105 u106 u107 u108 u109 u110 u111 u112 u113 u114 u115 u116 u117 u118 u119 u120 u121 u122 u123 u124 u125 u126 u127 u128 u129 u130 u131 u132 u133 u134 u135 u136 u137 u138 u139 u140 u141 u142 u143 u144 u145 u146 u147 u148 u149 u150 u151 u152 u153 u154 u155 u156 u157 u158 u159 u160 u161 u162 u163 u164 u165 u166 u167 u168 u169 u170 u171 u172 u173 u174 u175 u176 u177 u178 u179 u180 u181 u182 u183 u184 u185 u186 u187 : Value} (w : World) (d bN bF m bM bK : Nat) (g : GG) (G : List (List Nat)) (J : List Bool) (sg : SG) (ss : List Sr) (og : OG) (os : List Ob) (v : SV) (fT fR : List Nat) (cs : List Cho) (vs : List (SV × SV)) (H : PX d bN bF m g G J sg ss og os v fT fR cs vs w)
    (grp mem : List Nat) (ga ma ca : Option Addr) (gc mc cn cc : Nat) (gv : ∀ (j x : Nat), grp[j]? = some x → ∃ b, ga = some ⟨b, 0, none⟩ ∧ b < w.heap.size ∧ b ∉ fT ∧ w.cell? ⟨b, j, none⟩ = some (.int .i64 x)) (gn : grp.Nodup) (gl : ∀ c ∈ grp, c < cs.length) (g0 : 0 < grp.length) (g60 : grp.length ≤ 60) (hway : ∀ C ∈ cs, C.way ≤ 1) (hcl : cs.length ≤ 1000)
    (B : List (List Nat)) (JB : List Bool) (gK : GG) (KK : TK (wsL cs mem grp) B) (hin : ∀ c ∈ grp, ∀ C : Cho, cs[c]? = some C → (∀ t ∈ C.a0.f, t ∈ mem) ∧ (∀ t ∈ C.a1.f, t ∈ mem) ∧ C.a0.i ∈ mem ∧ C.a1.i ∈ mem) (hfl : ∀ C ∈ cs, C.a0.f.length ≤ 100 ∧ C.a1.f.length ≤ 100) (hml : mem.length < 100000)
    (W0 : World) (U0 : Upd [] w W0) (T : TC bK gK B JB ⟨none, 0, 0⟩ ⟨none, 0, 0⟩ [] [] [] [] [] W0) (hlo : ∀ k ∈ tcFp bK gK [] [], w.heap.size ≤ k) (LM : Nat → Option Value) (hM : MapAt W0 (ik .i64) bM LM) (hLM : ∀ t ∈ mem, LM t = some (.int .i64 (mem.idxOf t : Nat))) (hbM : w.heap.size ≤ bM) (hbMn : bM ∉ tcFp bK gK [] []) (Q : Exit → Act → World → Prop)
    (hQ : ∀ {u4 u5 u6 u7 u11 u12 u13 u14 u15 u16 u17 u18 u19 u20 u21 u22 u23 u24 u25 u26 u27 u28 u29 u30 u31 u32 u33 u34 u35 u36 u37 u38 u39 u40 u41 u42 u43 u44 u45 u46 u47 u48 u49 u50 u51 u52 u53 u54 u55 u56 u57 u58 u59 u60 u61 u62 u63 u64 u65 u66 u67 u68 u69 u70 u71 u72 u73 u74 u75 u76 u77 u78 u79 u80 u81 u82 u83 u84 u85 u86 u87 u88 u89 u90 u91 u92 u93 u94 u95 u96 u97 u98 u99 u100 u101 u102 u103 u104 u105 u106 u107 u108 u109 u110 u111 u112 u113 u114 u115 u116 u117 u118 u119 u120 u121 u122 u123 u124 u125 u126 u127 u128 u129 u130 u131 u132 u133 u134 u135 u136 u137 u138 u139 u140 u141 u142 u143 u144 u145 u146 u147 u148 u149 u150 u151 u152 u153 u154 u155 u156 u157 u158 u159 u160 u161 u162 u163 u164 u165 u166 u167 u168 u169 u170 u171 u172 u173 u174 u175 u176 u177 u178 u179 u180 u181 u182 u183 u184 u185 u186 u187 : Value} (g4 : GG) (vW vC : SV) (fW fC fV : List Nat) (vsW : List (SV × SV)) (wr : World), TC bK g4 B JB vW vC fW fC fV (wsL cs mem grp) vsW wr → Upd [] w wr → (∀ k ∈ tcFp bK g4 fW fC, w.heap.size ≤ k) → (∀ k ∈ fV, w.heap.size ≤ k) → Q .normal ⟨[.pointer (some ⟨d, 0, none⟩), .slice ga grp.length gc, .slice ma B.length mc, .slice ca cn cc, u4, u5, u6, u7, .bool false, .map (some bM), .pointer (some ⟨bK, 0, none⟩), u11, u12, u13, u14, u15, u16, u17, u18, u19, u20, u21, u22, u23, u24, u25, u26, u27, u28, u29, u30, u31, u32, u33, u34, u35, u36, u37, u38, u39, u40, u41, u42, u43, u44, u45, u46, u47, u48, u49, u50, u51, u52, u53, u54, u55, u56, u57, u58, u59, u60, u61, u62, u63, u64, u65, u66, u67, u68, u69, u70, u71, u72, u73, u74, u75, u76, u77, u78, u79, u80, u81, u82, u83, u84, u85, u86, u87, u88, u89, u90, u91, u92, u93, u94, u95, u96, u97, u98, u99, u100, u101, u102, u103, u104, u105, u106, u107, u108, u109, u110, u111, u112, u113, u114, u115, u116, u117, u118, u119, u120, u121, u122, u123, u124, u125, u126, u127, u128, u129, u130, u131, u132, u133, u134, u135, u136, u137, u138, u139, u140, u141, u142, u143, u144, u145, u146, u147, u148, u149, u150, u151, u152, u153, u154, u155, u156, u157, u158, u159, u160, u161, u162, u163, u164, u165, u166, u167, u168, u169, u170, u171, u172, u173, u174, u175, u176, u177, u178, u179, u180, u181, u182, u183, u184, u185, u186, u187].toArray, []⟩ wr) :
    se18.wp Ybaz.prog Q ⟨[.pointer (some ⟨d, 0, none⟩), .slice ga grp.length gc, .slice ma B.length mc, .slice ca cn cc, u4, u5, u6, u7, .bool false, .map (some bM), .pointer (some ⟨bK, 0, none⟩), u11, u12, u13, u14, u15, u16, u17, u18, u19, u20, u21, u22, u23, u24, u25, u26, u27, u28, u29, u30, u31, u32, u33, u34, u35, u36, u37, u38, u39, u40, u41, u42, u43, u44, u45, u46, u47, u48, u49, u50, u51, u52, u53, u54, u55, u56, u57, u58, u59, u60, u61, u62, u63, u64, u65, u66, u67, u68, u69, u70, u71, u72, u73, u74, u75, u76, u77, u78, u79, u80, u81, u82, u83, u84, u85, u86, u87, u88, u89, u90, u91, u92, u93, u94, u95, u96, u97, u98, u99, u100, u101, u102, u103, u104, u105, u106, u107, u108, u109, u110, u111, u112, u113, u114, u115, u116, u117, u118, u119, u120, u121, u122, u123, u124, u125, u126, u127, u128, u129, u130, u131, u132, u133, u134, u135, u136, u137, u138, u139, u140, u141, u142, u143, u144, u145, u146, u147, u148, u149, u150, u151, u152, u153, u154, u155, u156, u157, u158, u159, u160, u161, u162, u163, u164, u165, u166, u167, u168, u169, u170, u171, u172, u173, u174, u175, u176, u177, u178, u179, u180, u181, u182, u183, u184, u185, u186, u187].toArray, []⟩ W0 := by
  have HQ : Hid (∀ {u4 u5 u6 u7 u11 u12 u13 u14 u15 u16 u17 u18 u19 u20 u21 u22 u23 u24 u25 u26 u27 u28 u29 u30 u31 u32 u33 u34 u35 u36 u37 u38 u39 u40 u41 u42 u43 u44 u45 u46 u47 u48 u49 u50 u51 u52 u53 u54 u55 u56 u57 u58 u59 u60 u61 u62 u63 u64 u65 u66 u67 u68 u69 u70 u71 u72 u73 u74 u75 u76 u77 u78 u79 u80 u81 u82 u83 u84 u85 u86 u87 u88 u89 u90 u91 u92 u93 u94 u95 u96 u97 u98 u99 u100 u101 u102 u103 u104 u105 u106 u107 u108 u109 u110 u111 u112 u113 u114 u115 u116 u117 u118 u119 u120 u121 u122 u123 u124 u125 u126 u127 u128 u129 u130 u131 u132 u133 u134 u135 u136 u137 u138 u139 u140 u141 u142 u143 u144 u145 u146 u147 u148 u149 u150 u151 u152 u153 u154 u155 u156 u157 u158 u159 u160 u161 u162 u163 u164 u165 u166 u167 u168 u169 u170 u171 u172 u173 u174 u175 u176 u177 u178 u179 u180 u181 u182 u183 u184 u185 u186 u187 : Value} (g4 : GG) (vW vC : SV) (fW fC fV : List Nat) (vsW : List (SV × SV)) (wr : World), TC bK g4 B JB vW vC fW fC fV (wsL cs mem grp) vsW wr → Upd [] w wr → (∀ k ∈ tcFp bK g4 fW fC, w.heap.size ≤ k) → (∀ k ∈ fV, w.heap.size ≤ k) → Q .normal ⟨[.pointer (some ⟨d, 0, none⟩), .slice ga grp.length gc, .slice ma B.length mc, .slice ca cn cc, u4, u5, u6, u7, .bool false, .map (some bM), .pointer (some ⟨bK, 0, none⟩), u11, u12, u13, u14, u15, u16, u17, u18, u19, u20, u21, u22, u23, u24, u25, u26, u27, u28, u29, u30, u31, u32, u33, u34, u35, u36, u37, u38, u39, u40, u41, u42, u43, u44, u45, u46, u47, u48, u49, u50, u51, u52, u53, u54, u55, u56, u57, u58, u59, u60, u61, u62, u63, u64, u65, u66, u67, u68, u69, u70, u71, u72, u73, u74, u75, u76, u77, u78, u79, u80, u81, u82, u83, u84, u85, u86, u87, u88, u89, u90, u91, u92, u93, u94, u95, u96, u97, u98, u99, u100, u101, u102, u103, u104, u105, u106, u107, u108, u109, u110, u111, u112, u113, u114, u115, u116, u117, u118, u119, u120, u121, u122, u123, u124, u125, u126, u127, u128, u129, u130, u131, u132, u133, u134, u135, u136, u137, u138, u139, u140, u141, u142, u143, u144, u145, u146, u147, u148, u149, u150, u151, u152, u153, u154, u155, u156, u157, u158, u159, u160, u161, u162, u163, u164, u165, u166, u167, u168, u169, u170, u171, u172, u173, u174, u175, u176, u177, u178, u179, u180, u181, u182, u183, u184, u185, u186, u187].toArray, []⟩ wr) := hQ
  have HX : Hid _ := H
  have GV : Hid (∀ (j x : Nat), grp[j]? = some x → ∃ b, ga = some ⟨b, 0, none⟩ ∧ b < w.heap.size ∧ b ∉ fT ∧ w.cell? ⟨b, j, none⟩ = some (.int .i64 x)) := gv
  have GN : Hid (grp.Nodup) := gn
  have GL : Hid (∀ c ∈ grp, c < cs.length) := gl
  have HWY : Hid (∀ C ∈ cs, C.way ≤ 1) := hway
  have KH : Hid _ := KK
  have U0H : Hid (Upd [] w W0) := U0
  have TH : Hid _ := T
  have LO : Hid (∀ k ∈ tcFp bK gK [] [], w.heap.size ≤ k) := hlo
  have HIN : Hid (∀ c ∈ grp, ∀ C : Cho, cs[c]? = some C → (∀ t ∈ C.a0.f, t ∈ mem) ∧ (∀ t ∈ C.a1.f, t ∈ mem) ∧ C.a0.i ∈ mem ∧ C.a1.i ∈ mem) := hin
  have HFL : Hid (∀ C ∈ cs, C.a0.f.length ≤ 100 ∧ C.a1.f.length ≤ 100) := hfl
  have MH : Hid _ := hM
  have HLM : Hid (∀ t ∈ mem, LM t = some (.int .i64 (mem.idxOf t : Nat))) := hLM
  have BMN : Hid (bM ∉ tcFp bK gK [] []) := hbMn
  have hbs := bs83
  have hbs2 := bs208
  have hix0 := ix0
  have hix1 := ix1
  clear H gv gn gl hway KK U0 T hlo hin hfl hM hLM hbMn hQ
  conv => arg 2; whnf
  go_wp2_with fail
  go_loopw [83] (fun t83 wr => ∃ (i : Nat) (g4 : GG) (vW vC : SV) (fW fC fV : List Nat) (vsW : List (SV × SV)), i ≤ grp.length ∧ t83 = .int .i64 i ∧ TC bK g4 B JB vW vC fW fC fV (wsL cs mem (grp.take i)) vsW wr ∧ g4.foot = gK.foot ∧ Upd [] w wr ∧ MapAt wr (ik .i64) bM LM ∧ (∀ k ∈ tcFp bK g4 fW fC, w.heap.size ≤ k) ∧ (∀ k ∈ fV, w.heap.size ≤ k) ∧ bM ∉ tcFp bK g4 fW fC) (fun a _ => grp.length - (intOf a).toNat)
  case atStart => exact ⟨0, gK, _, _, [], [], [], [], by omega, rfl, by simpa [wsL] using TH.out, rfl, U0H.out, MH.out, LO.out, by simp, BMN.out⟩
  case round =>
    obtain ⟨i, g4, vW, vC, fW, fC, fV, vsW, hi, rfl, h1, h2, h3, h4, h5, h6, h7⟩ := hrel
    have T4 : Hid _ := h1
    have GF4 : Hid (g4.foot = gK.foot) := h2
    have UW : Hid (Upd [] w wr) := h3
    have M4 : Hid _ := h4
    have LO4 : Hid (∀ k ∈ tcFp bK g4 fW fC, w.heap.size ≤ k) := h5
    have LV4 : Hid (∀ k ∈ fV, w.heap.size ≤ k) := h6
    have BM4 : Hid (bM ∉ tcFp bK g4 fW fC) := h7
    clear h1 h2 h3 h4 h5 h6 h7
    by_cases hlt : i < grp.length
    · as_aux_lemma =>
      obtain ⟨c, hc⟩ := has_at grp hlt
      obtain ⟨b, m1, m2, m3, m4⟩ := GV.out i c hc
      subst m1
      have m5 := UW.out.cell m4 (by simp)
      have hcm := List.mem_of_getElem? hc
      have hcl2 := GL.out c hcm
      obtain ⟨C, hC⟩ := has_at cs hcl2
      have PW := HX.out.grow UW.out
      obtain ⟨bX, ⟨sa0, sn0, sc0⟩, ⟨sa1, sn1, sc1⟩, e1, e2, e3, e4, e5, e6, e7, e8, e9, e10, e11⟩ := PW.ch.at hC
      simp only at e4 e6
      have hn0 : sn0 = C.a0.f.length := e10.1
      have hn1 : sn1 = C.a1.f.length := e11.1
      subst hn0 hn1
      have c6 := (PW.cell (j := 6) rfl).1
      rw [e1, PW.ch.n] at c6
      obtain ⟨n1, n2, n3, n4⟩ := HIN.out c hcm C hC
      obtain ⟨l1, l2⟩ := HFL.out C (List.mem_of_getElem? hC)
      have HC : Hid (cs[c]? = some C) := hC
      have HGC : Hid (grp[i]? = some c) := hc
      have N1 : Hid (∀ t ∈ C.a0.f, t ∈ mem) := n1
      have N2 : Hid (∀ t ∈ C.a1.f, t ∈ mem) := n2
      have N3 : Hid (C.a0.i ∈ mem) := n3
      have N4 : Hid (C.a1.i ∈ mem) := n4
      have RV0 : Hid (∀ (j x : Nat), C.a0.f[j]? = some x → ∃ b, sa0 = some ⟨b, 0, none⟩ ∧ wr.cell? ⟨b, j, none⟩ = some (.int .i64 x)) := fun j x hx => by
        obtain ⟨b, q1, q2, q3⟩ := e10.2.2.2 j x hx
        exact ⟨b, q2, q3⟩
      have RV1 : Hid (∀ (j x : Nat), C.a1.f[j]? = some x → ∃ b, sa1 = some ⟨b, 0, none⟩ ∧ wr.cell? ⟨b, j, none⟩ = some (.int .i64 x)) := fun j x hx => by
        obtain ⟨b, q1, q2, q3⟩ := e11.2.2.2 j x hx
        exact ⟨b, q2, q3⟩
      have hdlt : d < wr.heap.size := PW.gr.lt
      have hbXlt : bX < wr.heap.size := World.block_lt_of_cell? _ _ e8
      clear hc m4 hC PW e1 e2 e3 e8 e9 e10 e11 n1 n2 n3 n4 hcm
      go_upto_region 23 with fail
      obtain ⟨Wc, hWc⟩ : ∃ z : World, z = wr := ⟨_, rfl⟩
      subst hWc
      obtain ⟨bA, hbA⟩ : ∃ b, b = Wc.heap.size := ⟨_, rfl⟩
      have WB0 : Hid (WB bA ⟨[], 0⟩ ⟨[], 0⟩ ⟨none, 0, 0⟩ ⟨none, 0, 0⟩ [] [] (Wc.alloc (.cells #[.slice none 0 0, .int .i64 0, .slice none 0 0, .int .i64 0] 162))) := by
        show WB _ _ _ _ _ _ _ _
        rw [hbA]; exact WB.start Wc
      have UA0 : Hid (Upd [] Wc (Wc.alloc (.cells #[.slice none 0 0, .int .i64 0, .slice none 0 0, .int .i64 0] 162))) := Upd.alloc _ _ _
      have HBA : Hid (bA = Wc.heap.size) := hbA
      rw [← hbA]
      clear m5 c6 e4 e5 e6 e7 hbA
      go_loopw [95] (fun t95 wx => ∃ (q : Nat) (s0 s1 : SV) (f0 f1 : List Nat), q ≤ 2 ∧ t95 = .int .i64 (q : Nat) ∧ WB bA (if 1 ≤ q then locA mem C.a0 else ⟨[], 0⟩) (if 2 ≤ q then locA mem C.a1 else ⟨[], 0⟩) s0 s1 f0 f1 wx ∧ Upd [] Wc wx ∧ (∀ k ∈ bA :: (f0 ++ f1), Wc.heap.size ≤ k)) (fun a _ => 2 - (intOf a).toNat)
      case atStart => exact ⟨0, ⟨none, 0, 0⟩, ⟨none, 0, 0⟩, [], [], by omega, rfl, by simpa using WB0.out, UA0.out, fun k hk => by simp at hk; rw [hk, HBA.out]; exact Nat.le_refl _⟩
      case round =>
        obtain ⟨q, s0, s1, f0, f1, hq, rfl, h1, h2, h3⟩ := hrel
        have UC : Hid (Upd [] Wc wr) := h2
        have FL : Hid (∀ k ∈ bA :: (f0 ++ f1), Wc.heap.size ≤ k) := h3
        clear h2 h3
        have hq3 : q = 0 ∨ q = 1 ∨ q = 2 := by omega
        rcases hq3 with rfl | rfl | rfl
        · as_aux_lemma =>
          have B5 : WB bA ⟨[], 0⟩ ⟨[], 0⟩ s0 s1 f0 f1 wr := by simpa using h1
          have hsn : s0.n = 0 := by have := B5.r0.len; simpa using this.symm
          have bAlt : bA < wr.heap.size := B5.blk.lt
          obtain ⟨bL, hbL⟩ : ∃ b, b = wr.heap.size := ⟨_, rfl⟩
          have B5H : Hid _ := B5
          clear h1 B5
          go_upto_region 25 with fail
          obtain ⟨W2, hW2⟩ : ∃ z : World, z = wr.alloc (.cells #[.slice sa0 C.a0.f.length sc0, .int .i64 C.a0.i] 161) := ⟨_, rfl⟩
          have XL : Blk W2 bL 161 #[.slice sa0 C.a0.f.length sc0, .int .i64 C.a0.i] := by rw [hW2, hbL]; exact Blk.new _ _ _
          have U2 : Upd [] wr W2 := by rw [hW2]; exact Upd.alloc _ _ _
          rw [← hW2, ← hbL]
          have B6 := B5H.out.keep U2 (by simp)
          have UC2 : Hid (Upd [] Wc W2) := UC.out.trans U2 (by simp)
          have M2 : Hid (MapAt W2 (ik .i64) bM LM) := M4.out.keep UC2.out (by simp)
          have c1 : W2.cell? ⟨bL, 1, none⟩ = some (.int .i64 C.a0.i) := XL.cell 1
          have ca : W2.cell? ⟨bA, 1, none⟩ = some (.int .i64 0) := B6.blk.cell 1
          have za : W2.frozen? ⟨bA, 1, none⟩ = false := B6.blk.free 1
          have B7 : Hid _ := B6.into0 (mem.idxOf C.a0.i)
          have XLH : Hid (Blk W2 bL 161 #[.slice sa0 C.a0.f.length sc0, .int .i64 C.a0.i]) := XL
          have LMi : Hid (LM C.a0.i = some (.int .i64 (mem.idxOf C.a0.i : Nat))) := HLM.out _ N3.out
          have hne : bL ≠ bA := by rw [hbL]; omega
          obtain ⟨xi, hxi⟩ : ∃ x, x = mem.idxOf C.a0.i := ⟨_, rfl⟩
          rw [← hxi] at B7 LMi
          have HXI : Hid (xi = mem.idxOf C.a0.i) := hxi
          clear hxi
          have hlkW : (Instr.lookup 145 (.map (some bM)) (.int .i64 C.a0.i) false).run Ybaz.prog W2 = .ok (.int .i64 xi) W2 := by
            have := M2.out.look (P := Ybaz.prog) (intKeys Ybaz.underlying3) Ybaz.underlying145 zero3 C.a0.i false
            rw [LMi.out] at this
            exact this
          clear hW2 hbL XL U2 B6 B5H
          go_upto_region 26 with fail
          obtain ⟨W3, hW3⟩ : ∃ z : World, z = W2.setCell ⟨bA, 1, none⟩ (.int .i64 xi) := ⟨_, rfl⟩
          have U3 : Upd [bA] W2 W3 := by rw [hW3]; exact Upd.store _ _ _ _
          rw [← hW3] at B7 ⊢
          have c0 : W3.cell? ⟨bL, 0, none⟩ = some (.slice sa0 C.a0.f.length sc0) := U3.cell (Blk.cell XLH.out 0) (by simpa using hne)
          have UC3 : Hid (Upd [] Wc W3) := UC2.out.trans U3 (fun k hk => .inr (by simp at hk; subst hk; exact FL.out _ (by simp)))
          clear hW3 U3 c1 ca za XLH M2 UC2 LMi hlkW
          go_wp2_with fail
          clear c0
          go_loopw [109] (fun t109 wx => ∃ (r : Nat) (s : SV) (f : List Nat), r ≤ C.a0.f.length ∧ t109 = .int .i64 r ∧ WB bA ⟨((C.a0.f.take r).map mem.idxOf), xi⟩ ⟨[], 0⟩ s s1 f f1 wx ∧ Upd [] Wc wx ∧ (∀ k ∈ bA :: (f ++ f1), Wc.heap.size ≤ k)) (fun a _ => C.a0.f.length - (intOf a).toNat)
          case atStart => exact ⟨0, s0, f0, by omega, rfl, by simpa using B7.out, UC3.out, FL.out⟩
          case round =>
            obtain ⟨r, s, f, hr, rfl, i1, i2, i3⟩ := hrel
            have B8 : Hid _ := i1
            have UC8 : Hid (Upd [] Wc wr) := i2
            have FL8 : Hid (∀ k ∈ bA :: (f ++ f1), Wc.heap.size ≤ k) := i3
            by_cases hlt3 : r < C.a0.f.length
            · as_aux_lemma =>
              obtain ⟨t, ht⟩ := has_at C.a0.f hlt3
              obtain ⟨bf, z1, z2⟩ := RV0.out r t ht
              subst z1
              have z3 := i2.cell z2 (by simp)
              have htm := N1.out t (List.mem_of_getElem? ht)
              obtain ⟨xt, hxt⟩ : ∃ x, x = mem.idxOf t := ⟨_, rfl⟩
              have M8 := M4.out.keep i2 (by simp)
              have hlk : (Instr.lookup 145 (.map (some bM)) (.int .i64 t) false).run Ybaz.prog wr = .ok (.int .i64 xt) wr := by
                have := M8.look (P := Ybaz.prog) (intKeys Ybaz.underlying3) Ybaz.underlying145 zero3 t false
                rw [HLM.out t htm, ← hxt] at this
                exact this
              have hlk2 : (Instr.lookup 145 (.map (some bM)) (.int .i64 t) false).run Ybaz.prog wr.drew = .ok (.int .i64 xt) wr.drew := by
                have := (M8.keep (Upd.drew [] wr) (by simp)).look (P := Ybaz.prog) (intKeys Ybaz.underlying3) Ybaz.underlying145 zero3 t false
                rw [HLM.out t htm, ← hxt] at this
                exact this
              have hsl := i1.r0.len
              have hsn2 : s.n = r := by simp at hsl; omega
              obtain ⟨gX, cX, w1, hrun, r1, r2, r3⟩ := run_append_new (P := Ybaz.prog) wr 83 83 3 8 slInts (by decide) s.a s.n s.c f _ i1.r0 (.int .i64 xt) rfl (by omega)
              have nd := i1.nd
              simp only [List.nodup_cons, List.mem_append, not_or] at nd
              have bAf : bA ∉ f := nd.1.1
              have ca : wr.cell? ⟨bA, 0, none⟩ = some (.slice s.a s.n s.c) := i1.blk.cell 0
              have bAl : bA < wr.heap.size := i1.blk.lt
              have ca1 := r2.cell ca bAf
              have za1 := r2.free bAl (i1.blk.free 0) bAf
              have B9 : Hid _ := i1.from0 r1 r2 r3
              have R2 : Hid (Upd f wr w1) := r2
              have R3 : Hid (gX ∈ f ∨ wr.heap.size ≤ gX) := r3
              have FT : Hid (C.a0.f[r]? = some t) := ht
              have HXT : Hid (xt = mem.idxOf t) := hxt
              clear i1 i2 i3 ht z2 htm M8 r1 r2 r3 nd bAf hsl hxt hsn2
              go_upto_region 29 with fail
              go_big_region
              obtain ⟨W5, hW5⟩ : ∃ z : World, z = w1.setCell ⟨bA, 0, none⟩ (.slice (some ⟨gX, 0, none⟩) (s.n + 1) cX) := ⟨_, rfl⟩
              rw [← hW5] at B9 ⊢
              have U5 : Hid (Upd (bA :: f) wr W5) := by
                show Upd (bA :: f) wr W5
                rw [hW5]
                exact (R2.out.mono (fun k hk => .inl (by simp [hk]))).trans (Upd.store _ _ _ _) (fun k hk => .inl (by simp at hk; simp [hk]))
              clear hW5 ca1 za1 ca hlk hlk2 hrun
              go_wp2_with fail
              have e9 : (C.a0.f.take (r + 1)).map mem.idxOf = (C.a0.f.take r).map mem.idxOf ++ [xt] := by
                rw [List.take_add_one, FT.out, HXT.out]; simp
              refine ⟨⟨r + 1, ⟨some ⟨gX, 0, none⟩, s.n + 1, cX⟩, [gX], by omega, by go_num, ?_, ?_, ?_⟩, by simp [intOf] <;> omega⟩
              · rw [e9]; exact B9.out
              · exact UC8.out.trans U5.out (fun k hk => .inr (FL8.out k (by simp only [List.mem_cons, List.mem_append] at hk ⊢; exact hk.imp id .inl)))
              · intro k hk
                simp only [List.mem_cons, List.mem_append, List.not_mem_nil, or_false] at hk
                rcases hk with hk | hk | hk
                · exact FL8.out k (by simp [hk])
                · subst hk
                  rcases R3.out with z | z
                  · exact FL8.out _ (by simp [z])
                  · have := UC8.out.size; omega
                · exact FL8.out k (by simp [hk])
            · as_aux_lemma =>
              have hr2 : r = C.a0.f.length := by omega
              have BN : Hid (WB bA (locA mem C.a0) ⟨[], 0⟩ s s1 f f1 wr) := by
                have := B8.out
                rw [hr2, List.take_length, HXI.out] at this
                exact this
              clear i1 i2 i3
              go_wp2_with fail
              exact ⟨⟨1, s, s1, f, f1, by omega, by go_num, by simpa using BN.out, UC8.out, FL8.out⟩, by simp [intOf]⟩
        · as_aux_lemma =>
          have B5 : WB bA (locA mem C.a0) ⟨[], 0⟩ s0 s1 f0 f1 wr := by simpa using h1
          have hsn : s1.n = 0 := by have := B5.r1.len; simpa using this.symm
          have bAlt : bA < wr.heap.size := B5.blk.lt
          obtain ⟨bL, hbL⟩ : ∃ b, b = wr.heap.size := ⟨_, rfl⟩
          have B5H : Hid _ := B5
          clear h1 B5
          go_upto_region 25 with fail
          obtain ⟨W2, hW2⟩ : ∃ z : World, z = wr.alloc (.cells #[.slice sa1 C.a1.f.length sc1, .int .i64 C.a1.i] 161) := ⟨_, rfl⟩
          have XL : Blk W2 bL 161 #[.slice sa1 C.a1.f.length sc1, .int .i64 C.a1.i] := by rw [hW2, hbL]; exact Blk.new _ _ _
          have U2 : Upd [] wr W2 := by rw [hW2]; exact Upd.alloc _ _ _
          rw [← hW2, ← hbL]
          have B6 := B5H.out.keep U2 (by simp)
          have UC2 : Hid (Upd [] Wc W2) := UC.out.trans U2 (by simp)
          have M2 : Hid (MapAt W2 (ik .i64) bM LM) := M4.out.keep UC2.out (by simp)
          have c1 : W2.cell? ⟨bL, 1, none⟩ = some (.int .i64 C.a1.i) := XL.cell 1
          have ca : W2.cell? ⟨bA, 3, none⟩ = some (.int .i64 0) := B6.blk.cell 3
          have za : W2.frozen? ⟨bA, 3, none⟩ = false := B6.blk.free 3
          have B7 : Hid _ := B6.into1 (mem.idxOf C.a1.i)
          have XLH : Hid (Blk W2 bL 161 #[.slice sa1 C.a1.f.length sc1, .int .i64 C.a1.i]) := XL
          have LMi : Hid (LM C.a1.i = some (.int .i64 (mem.idxOf C.a1.i : Nat))) := HLM.out _ N4.out
          have hne : bL ≠ bA := by rw [hbL]; omega
          obtain ⟨xi, hxi⟩ : ∃ x, x = mem.idxOf C.a1.i := ⟨_, rfl⟩
          rw [← hxi] at B7 LMi
          have HXI : Hid (xi = mem.idxOf C.a1.i) := hxi
          clear hxi
          have hlkW : (Instr.lookup 145 (.map (some bM)) (.int .i64 C.a1.i) false).run Ybaz.prog W2 = .ok (.int .i64 xi) W2 := by
            have := M2.out.look (P := Ybaz.prog) (intKeys Ybaz.underlying3) Ybaz.underlying145 zero3 C.a1.i false
            rw [LMi.out] at this
            exact this
          clear hW2 hbL XL U2 B6 B5H
          go_upto_region 26 with fail
          obtain ⟨W3, hW3⟩ : ∃ z : World, z = W2.setCell ⟨bA, 3, none⟩ (.int .i64 xi) := ⟨_, rfl⟩
          have U3 : Upd [bA] W2 W3 := by rw [hW3]; exact Upd.store _ _ _ _
          rw [← hW3] at B7 ⊢
          have c0 : W3.cell? ⟨bL, 0, none⟩ = some (.slice sa1 C.a1.f.length sc1) := U3.cell (Blk.cell XLH.out 0) (by simpa using hne)
          have UC3 : Hid (Upd [] Wc W3) := UC2.out.trans U3 (fun k hk => .inr (by simp at hk; subst hk; exact FL.out _ (by simp)))
          clear hW3 U3 c1 ca za XLH M2 UC2 LMi hlkW
          go_wp2_with fail
          clear c0
          go_loopw [109] (fun t109 wx => ∃ (r : Nat) (s : SV) (f : List Nat), r ≤ C.a1.f.length ∧ t109 = .int .i64 r ∧ WB bA (locA mem C.a0) ⟨((C.a1.f.take r).map mem.idxOf), xi⟩ s0 s f0 f wx ∧ Upd [] Wc wx ∧ (∀ k ∈ bA :: (f0 ++ f), Wc.heap.size ≤ k)) (fun a _ => C.a1.f.length - (intOf a).toNat)
          case atStart => exact ⟨0, s1, f1, by omega, rfl, by simpa using B7.out, UC3.out, FL.out⟩
          case round =>
            obtain ⟨r, s, f, hr, rfl, i1, i2, i3⟩ := hrel
            have B8 : Hid _ := i1
            have UC8 : Hid (Upd [] Wc wr) := i2
            have FL8 : Hid (∀ k ∈ bA :: (f0 ++ f), Wc.heap.size ≤ k) := i3
            by_cases hlt3 : r < C.a1.f.length
            · as_aux_lemma =>
              obtain ⟨t, ht⟩ := has_at C.a1.f hlt3
              obtain ⟨bf, z1, z2⟩ := RV1.out r t ht
              subst z1
              have z3 := i2.cell z2 (by simp)
              have htm := N2.out t (List.mem_of_getElem? ht)
              obtain ⟨xt, hxt⟩ : ∃ x, x = mem.idxOf t := ⟨_, rfl⟩
              have M8 := M4.out.keep i2 (by simp)
              have hlk : (Instr.lookup 145 (.map (some bM)) (.int .i64 t) false).run Ybaz.prog wr = .ok (.int .i64 xt) wr := by
                have := M8.look (P := Ybaz.prog) (intKeys Ybaz.underlying3) Ybaz.underlying145 zero3 t false
                rw [HLM.out t htm, ← hxt] at this
                exact this
              have hlk2 : (Instr.lookup 145 (.map (some bM)) (.int .i64 t) false).run Ybaz.prog wr.drew = .ok (.int .i64 xt) wr.drew := by
                have := (M8.keep (Upd.drew [] wr) (by simp)).look (P := Ybaz.prog) (intKeys Ybaz.underlying3) Ybaz.underlying145 zero3 t false
                rw [HLM.out t htm, ← hxt] at this
                exact this
              have hsl := i1.r1.len
              have hsn2 : s.n = r := by simp at hsl; omega
              obtain ⟨gX, cX, w1, hrun, r1, r2, r3⟩ := run_append_new (P := Ybaz.prog) wr 83 83 3 8 slInts (by decide) s.a s.n s.c f _ i1.r1 (.int .i64 xt) rfl (by omega)
              have nd := i1.nd
              simp only [List.nodup_cons, List.mem_append, not_or] at nd
              have bAf : bA ∉ f := nd.1.2
              have ca : wr.cell? ⟨bA, 2, none⟩ = some (.slice s.a s.n s.c) := i1.blk.cell 2
              have bAl : bA < wr.heap.size := i1.blk.lt
              have ca1 := r2.cell ca bAf
              have za1 := r2.free bAl (i1.blk.free 2) bAf
              have B9 : Hid _ := i1.from1 r1 r2 r3
              have R2 : Hid (Upd f wr w1) := r2
              have R3 : Hid (gX ∈ f ∨ wr.heap.size ≤ gX) := r3
              have FT : Hid (C.a1.f[r]? = some t) := ht
              have HXT : Hid (xt = mem.idxOf t) := hxt
              clear i1 i2 i3 ht z2 htm M8 r1 r2 r3 nd bAf hsl hxt hsn2
              go_upto_region 29 with fail
              go_big_region
              obtain ⟨W5, hW5⟩ : ∃ z : World, z = w1.setCell ⟨bA, 2, none⟩ (.slice (some ⟨gX, 0, none⟩) (s.n + 1) cX) := ⟨_, rfl⟩
              rw [← hW5] at B9 ⊢
              have U5 : Hid (Upd (bA :: f) wr W5) := by
                show Upd (bA :: f) wr W5
                rw [hW5]
                exact (R2.out.mono (fun k hk => .inl (by simp [hk]))).trans (Upd.store _ _ _ _) (fun k hk => .inl (by simp at hk; simp [hk]))
              clear hW5 ca1 za1 ca hlk hlk2 hrun
              go_wp2_with fail
              have e9 : (C.a1.f.take (r + 1)).map mem.idxOf = (C.a1.f.take r).map mem.idxOf ++ [xt] := by
                rw [List.take_add_one, FT.out, HXT.out]; simp
              refine ⟨⟨r + 1, ⟨some ⟨gX, 0, none⟩, s.n + 1, cX⟩, [gX], by omega, by go_num, ?_, ?_, ?_⟩, by simp [intOf] <;> omega⟩
              · rw [e9]; exact B9.out
              · exact UC8.out.trans U5.out (fun k hk => .inr (FL8.out k (by simp only [List.mem_cons, List.mem_append] at hk ⊢; exact hk.imp id .inr)))
              · intro k hk
                simp only [List.mem_cons, List.mem_append, List.not_mem_nil, or_false] at hk
                rcases hk with hk | hk | hk
                · exact FL8.out k (by simp [hk])
                · exact FL8.out k (by simp [hk])
                · subst hk
                  rcases R3.out with z | z
                  · exact FL8.out _ (by simp [z])
                  · have := UC8.out.size; omega
            · as_aux_lemma =>
              have hr2 : r = C.a1.f.length := by omega
              have BN : Hid (WB bA (locA mem C.a0) (locA mem C.a1) s0 s f0 f wr) := by
                have := B8.out
                rw [hr2, List.take_length, HXI.out] at this
                exact this
              clear i1 i2 i3
              go_wp2_with fail
              exact ⟨⟨2, s0, s, f0, f, by omega, by go_num, by simpa using BN.out, UC8.out, FL8.out⟩, by simp [intOf]⟩
        · as_aux_lemma =>
          have B5 : WB bA (locA mem C.a0) (locA mem C.a1) s0 s1 f0 f1 wr := by simpa using h1
          have B5H : Hid _ := B5
          have T5 := T4.out.grow UC.out
          have c2 := (T5.cell (j := 2) rfl)
          have c21 := c2.1
          have c22 := c2.2
          have c3 := (T5.cell (j := 3) rfl)
          have c31 := c3.1
          have c32 := c3.2
          unfold SV.val at c21 c31
          have a0 : wr.cell? ⟨bA, 0, none⟩ = some (.slice s0.a s0.n s0.c) := B5.blk.cell 0
          have a1 : wr.cell? ⟨bA, 1, none⟩ = some (.int .i64 (locA mem C.a0).i) := B5.blk.cell 1
          have a2 : wr.cell? ⟨bA, 2, none⟩ = some (.slice s1.a s1.n s1.c) := B5.blk.cell 2
          have a3 : wr.cell? ⟨bA, 3, none⟩ = some (.int .i64 (locA mem C.a1).i) := B5.blk.cell 3
          obtain ⟨y0, hy0⟩ : ∃ x, x = (locA mem C.a0).i := ⟨_, rfl⟩
          obtain ⟨y1, hy1⟩ : ∃ x, x = (locA mem C.a1).i := ⟨_, rfl⟩
          rw [← hy0] at a1
          rw [← hy1] at a3
          have HY0 : Hid (y0 = (locA mem C.a0).i) := hy0
          have HY1 : Hid (y1 = (locA mem C.a1).i) := hy1
          have hKl : bK < wr.heap.size := T5.gr.lt
          have bAl : bA < wr.heap.size := B5.blk.lt
          have nd := T5.nd
          simp only [tcFp, List.nodup_cons, List.mem_append, not_or] at nd
          have NBW : Hid (bK ∉ fW) := nd.1.2.1
          have NBC : Hid (bK ∉ fC) := nd.1.2.2
          have TT : Hid _ := T5
          have hvn : vW.n < 1000 := by rw [T5.n]; simp [wsL]; omega
          have hvc : vC.n < 1000 := by rw [T5.nC]; simp [wsL]; omega
          clear h1 B5 T5 c2 c3 nd hy0 hy1
          go_upto_region 33 with (first
            | (at_builtin; refine wpList_append_elem wr _ (Upd.refl [] _) rfl (.tmp 128) (.tmp 130) 208 rfl 162 4 64 slWays (by decide) vW.a vW.n vW.c fW _ rfl TT.out.top (by simp) [.slice s0.a s0.n s0.c, .int .i64 y0, .slice s1.a s1.n s1.c, .int .i64 y1] rfl (by simp [Value.oneCell']) _ _ rfl (by simp) (by omega) ?_; intro gR cR w1 sR uR fR'; go_loud (have o1 := uR.cell c21 (by simpa using NBW.out)); go_loud (have o2 := uR.free hKl c22 (by simpa using NBW.out)); go_loud (have o3 := uR.cell c31 (by simpa using NBW.out)); go_loud (have o4 := uR.free hKl c32 (by simpa using NBW.out)); have SR : Hid _ := sR; have UR : Hid _ := uR; have FRR : Hid _ := fR'; clear sR uR fR'))
          have st1 := Upd.store w1 bK 2 (.slice (some ⟨gR, 0, none⟩) (vW.n + 1) cR)
          have U1F : Hid (Upd fW wr w1) := UR.out
          obtain ⟨W6, hW6⟩ : ∃ z : World, z = w1.setCell ⟨bK, 2, none⟩ (.slice (some ⟨gR, 0, none⟩) (vW.n + 1) cR) := ⟨_, rfl⟩
          have p1 : W6.cell? ⟨bK, 3, none⟩ = some (.slice vC.a vC.n vC.c) := by rw [hW6]; exact set_other o3 (.inr (by omega))
          have p2 : W6.frozen? ⟨bK, 3, none⟩ = false := by rw [hW6]; exact set_free o4
          have SC6 : Hid (Sl W6 3 1 vC.a vC.n vC.c fC ((List.replicate (wsL cs mem (grp.take i)).length (-1)).map iI)) := by
            show Sl _ _ _ _ _ _ _ _
            rw [hW6]
            have nd := TT.out.nd
            simp only [tcFp, List.nodup_cons, List.nodup_append, List.mem_append, not_or] at nd
            exact (TT.out.sc.keep U1F.out (fun k hk hm => nd.2.2.1.2.2 k hm k hk rfl)).keep st1 (fun k hk hm => by simp at hm; subst hm; exact NBC.out hk)
          have hK6 : bK < W6.heap.size := World.block_lt_of_cell? _ _ p1
          rw [← hW6]
          have HW6 : Hid (W6 = w1.setCell ⟨bK, 2, none⟩ (.slice (some ⟨gR, 0, none⟩) (vW.n + 1) cR)) := hW6
          clear hW6 st1 o1 o2 o3 o4 c21 c22 c31 c32 a0 a1 a2 a3
          go_wp2_with (first
            | (at_builtin; refine wpList_append_one W6 _ (Upd.refl [] _) rfl (.tmp 134) (.tmp 135) 83 rfl 3 8 slInts (by decide) vC.a vC.n vC.c fC _ rfl SC6.out (by simp) _ rfl _ _ rfl (by simp) (by omega) ?_; intro gC cC w3 sC uC fC'; go_loud (have o1 := uC.cell p1 (by simpa using NBC.out)); go_loud (have o2 := uC.free hK6 p2 (by simpa using NBC.out)); have SCC : Hid _ := sC; have UCC : Hid _ := uC; have FCC : Hid _ := fC'; clear sC uC fC'))
          have z6 : W6.heap.size = w1.heap.size := by rw [HW6.out]; simp [World.setCell]
          have RR0 : RowV (f0 ++ f1) wr s0 (locA mem C.a0).f := Go.Proofs.YbulkctquGreatFmt.Sl.rowV B5H.out.r0 (fun k hk => by simp [hk])
          have RR1 : RowV (f0 ++ f1) wr s1 (locA mem C.a1).f := Go.Proofs.YbulkctquGreatFmt.Sl.rowV B5H.out.r1 (fun k hk => by simp [hk])
          have u5 : Upd fC (w1.setCell ⟨bK, 2, none⟩ (.slice (some ⟨gR, 0, none⟩) (vW.n + 1) cR)) w3 := by
            rw [← HW6.out]; exact UCC.out
          have lowT : ∀ k ∈ tcFp bK g4 fW fC, k < Wc.heap.size := T4.out.low
          obtain ⟨g5, q1, q2, q3⟩ := TT.out.ways (A0 := locA mem C.a0) (A1 := locA mem C.a1) (s0 := s0) (s1 := s1) (fN := f0 ++ f1) (vC' := vC) (by
              have := SR.out
              rw [HY0.out, HY1.out] at this
              exact this) U1F.out FRR.out RR0 RR1 (fun k hk => by
              refine ⟨?_, fun hm => ?_⟩
              · rcases List.mem_append.mp hk with z | z
                · exact B5H.out.r0.lt k z
                · exact B5H.out.r1.lt k z
              · have := lowT k hm
                have := FL.out k (by simp only [List.mem_cons, List.mem_append] at hk ⊢; exact .inr hk)
                omega) SCC.out u5 (FCC.out.imp id (fun z => by omega))
          have e9 : wsL cs mem (grp.take (i + 1)) = wsL cs mem (grp.take i) ++ [(locA mem C.a0, locA mem C.a1)] := by
            rw [List.take_add_one, HGC.out]
            have : choAt cs c = C := by simp [choAt, HC.out]
            simp [wsL, this]
          have UF : Upd (tcFp bK g4 fW fC) Wc (w3.setCell ⟨bK, 3, none⟩ (.slice (some ⟨gC, 0, none⟩) (vC.n + 1) cC)) := (UC.out.mono (by simp)).trans q3 (fun k hk => .inl hk)
          have sUW := UW.out.size
          have sUC := UC.out.size
          have sU1 := U1F.out.size
          refine ⟨⟨i + 1, g5, _, _, _, _, _, _, by omega, by go_num, by rw [e9]; exact q2, q1.trans GF4.out, UW.out.trans UF (fun k hk => .inr (LO4.out k hk)), M4.out.keep UF BM4.out, ?_, ?_, ?_⟩, by simp [intOf] <;> omega⟩
          · intro k hk
            simp only [tcFp, List.mem_cons, List.mem_append, List.not_mem_nil, or_false] at hk
            rcases hk with hk | hk | hk | hk
            · exact LO4.out k (by simp [tcFp, hk])
            · exact LO4.out k (by rw [q1] at hk; simp [tcFp, hk])
            · subst hk
              rcases FRR.out with z | z
              · exact LO4.out _ (by simp [tcFp, z])
              · omega
            · subst hk
              rcases FCC.out with z | z
              · exact LO4.out _ (by simp [tcFp, z])
              · omega
          · intro k hk
            rcases List.mem_append.mp hk with z | z
            · exact LV4.out k z
            · have := FL.out k (by simp only [List.mem_cons, List.mem_append] at z ⊢; exact .inr z)
              omega
          · intro hm
            have lM := M4.out.lt
            have nM := BM4.out
            simp only [tcFp, List.mem_cons, List.mem_append, List.not_mem_nil, or_false, not_or] at hm nM
            rcases hm with hm | hm | hm | hm
            · exact nM.1 hm
            · exact nM.2.1 (by rw [q1] at hm; exact hm)
            · subst hm
              rcases FRR.out with z | z
              · exact nM.2.2.1 z
              · omega
            · subst hm
              rcases FCC.out with z | z
              · exact nM.2.2.2 z
              · omega
    · as_aux_lemma =>
      have hi2 : i = grp.length := by omega
      have T5 : TC bK g4 B JB vW vC fW fC fV (wsL cs mem grp) vsW wr := by
        have := T4.out
        rw [hi2, List.take_length] at this
        exact this
      have T5H : Hid _ := T5
      clear T5
      go_wp2_with fail
      exact HQ.out g4 vW vC fW fC fV vsW wr T5H.out UW.out LO4.out LV4.out
end Go.Proofs.YbulkctquGreatFmt

/-
  CertifySessions on any history: from misread on.
-/
import Derived.Test.YbulkctquGreatFmtCfP
import Derived.Test.YbulkctquGreatFmtSch
import Derived.Test.YbulkctquGreatFmtNspXT
import Derived.Test.YbulkctquGreatFmtCompE
import Derived.Test.YbulkctquGreatFmtSc
import Derived.Test.YbulkctquGreatFmtDel
import Derived.Test.YbulkctquGreatFmtLex
namespace Go.Proofs.YbulkctquGreatFmt
open Go.ChangeShapes Go.WideShapes Go.ChangeAt Go.RowKit Go.Ord
set_option linter.unusedVariables false
attribute [-go_sem] Go.Builtin.append_ Go.Instr.buildSlice

/-- One arc more. -/
theorem arcStepU {wz w6 W9 : World} {bV : Nat} {vA vB vC vR : SV} {fR : List Nat} {xs : List Value} (S : Sl wz 102 8 vR.a vR.n vR.c fR xs) (F : ∀ k ∈ fR, W9.heap.size ≤ k)
    (B : Blk wz bV 47 #[.slice vA.a vA.n vA.c, .slice vB.a vB.n vB.c, .bool false, .slice none 0 0, .pointer none, .slice vC.a vC.n vC.c, .slice vR.a vR.n vR.c, .slice none 0 0]) (U : Upd [bV] W9 wz) (hV : bV < W9.heap.size) (U6 : Upd [] wz w6) (hn : vR.n < 1000000000) (k a b c a' b' c' : Int) (p : Option Addr) :
    ∃ g' cap' w7, (Builtin.append_ #[45, 45] 45 #[.slice vR.a vR.n vR.c, .slice (some ⟨w6.heap.size, 0, none⟩) 1 1]).run Ybaz.prog (w6.alloc (.cells #[.int .u8 k, .int .i64 a, .int .i64 b, .int .i64 c, .int .i64 a', .int .i64 b', .int .i64 c', .pointer p] 102)) = .ok (.slice (some ⟨g', 0, none⟩) (vR.n + 1) cap') w7 ∧ Upd fR w6 w7 ∧
      w6.cell? ⟨bV, 6, none⟩ = some (.slice vR.a vR.n vR.c) ∧ w7.cell? ⟨bV, 6, none⟩ = some (.slice vR.a vR.n vR.c) ∧ w7.frozen? ⟨bV, 6, none⟩ = false ∧
      ∃ xs' : List Value, Sl (w7.setCell ⟨bV, 6, none⟩ (.slice (some ⟨g', 0, none⟩) (vR.n + 1) cap')) 102 8 (some ⟨g', 0, none⟩) (vR.n + 1) cap' [g'] xs' ∧ (∀ k ∈ [g'], W9.heap.size ≤ k) ∧
        Blk (w7.setCell ⟨bV, 6, none⟩ (.slice (some ⟨g', 0, none⟩) (vR.n + 1) cap')) bV 47 #[.slice vA.a vA.n vA.c, .slice vB.a vB.n vB.c, .bool false, .slice none 0 0, .pointer none, .slice vC.a vC.n vC.c, .slice (some ⟨g', 0, none⟩) (vR.n + 1) cap', .slice none 0 0] ∧
        Upd [bV] W9 (w7.setCell ⟨bV, 6, none⟩ (.slice (some ⟨g', 0, none⟩) (vR.n + 1) cap')) := by
  obtain ⟨g', cap', w7, h1, h2, h3, h4⟩ := run_appended8 w6 vR.a vR.n vR.c fR xs (S.keep U6 (by simp)) k a b c a' b' c' p hn
  have nV : bV ∉ fR := fun hm => by have := F _ hm; omega
  have B6 := B.keep U6 (by simp)
  have B7 := B6.keep h3 nV
  have hg : W9.heap.size ≤ g' := by
    rcases h4 with h | h
    · exact F _ h
    · have := U.size; have := U6.size; omega
  have st := Upd.store w7 bV 6 (.slice (some ⟨g', 0, none⟩) (vR.n + 1) cap')
  refine ⟨g', cap', w7, h1, h3, B6.cell 6, B7.cell 6, B7.free 6, _, h2.keep st (fun q hq hm => ?_), fun q hq => by simp at hq; subst hq; exact hg, ?_, ?_⟩
  · simp at hq hm; omega
  · have := B7.store 6 (.slice (some ⟨g', 0, none⟩) (vR.n + 1) cap')
    simpa using this
  · exact ((U.trans U6 (by simp)).trans h3 (fun q hq => .inr (F q hq))).trans st (by simp)
set_option maxHeartbeats 16000000 in
set_option maxRecDepth 100000 in
theorem cert17R {u0 u3 u5 u7 u8 u9 u10 u11 u12 u13 u14 u15 u16 u17 u18 u19 u20 u21 u22 u23 u24 u25 u26 u27 u28 u29 u30 u31 u32 u33 u34 u35 u36 u37 u38 u39 u40 u41 u42 u43 u44 u45 u46 u47 u48 u49 u50 u51 u52 u53 u54 u55 u56 u57 u58 u59 u60 u61 u62 u63 u64 u65 u66 u67 u68 u69 u70 u71 u72 u73 u74 u75 u76 u77 u78 u79 u80 u81 u82 u83 u84 u85 u86 u87 u88 u89 u90 u91 u92 u93 u94 u95 u96 u97 u98 u99 u100 u101 u102 u103 u104 u105 u106 u107 u108 u109 u110 u111 u112 u113 u114 u115 u116 u117 u118 u119 u120 u121 u122 u123 u124 u125 u126 u127 u128 u129 u130 u131 u132 u133 u134 u135 u136 u137 u138 u139 u140 u141 u142 u143 u144 u145 u146 u147 u148 u149 u150 u151 u152 u153 u154 u155 u156 u157 u158 u159 u160 u161 u162 u163 u164 u165 u166 u167 u168 u169 u170 u171 u172 u173 u174 u175 u176 u177 u178 u179 u180 u181 u182 u183 u184 u185 u186 u187 u188 u189 u190 u191 u192 u193 u194 u195 u196 u197 u198 u199 : Value} (w : World) (R : HR) (hs : List (List Tx)) (ta : Option Addr) (cap : Nat) (H : HistE w R hs) (O : HOk hs) (h8 : ∀ s k e x, At hs s k e x → x.v < 8) (F : Nat → Option Wr) (W : WF hs F) (b0 b1 bm bV : Nat) (vA vB : SV) (fA fB : List Nat) (wr : World) (B0 : Below w.heap.size w wr)
    (K13 : ∀ w1, HistE w1 R hs → MapAt w1 (ik .u64) bm (fun v => (F v).map Wr.val) → Calls Ybaz.prog 13 #[.agg #[.slice ta hs.length cap], .map (some bm)] w1 (MrPostC w1 hs F))
    (K14 : ROk hs → ∀ w1, HistE w1 R hs → MapAt w1 (ik .u64) bm (fun v => (F v).map Wr.val) → Calls Ybaz.prog 14 #[.agg #[.slice ta hs.length cap], .map (some bm)] w1 (NspPostT w1 hs F))
    (K20 : ∀ (w1 : World) (p q : Nat × Nat) (l : List Tx) (t : Tx) (lp : List Tx) (tp : Tx), HistE w1 R hs → MapAt w1 (ik .u64) bm (fun v => (F v).map Wr.val) → hs[q.1]? = some l → l[q.2]? = some t → hs[p.1]? = some lp → lp[p.2]? = some tp → Cause hs F p q → Calls Ybaz.prog 20 #[.agg #[.slice ta hs.length cap], .map (some bm), .agg #[.int .i64 p.1, .int .i64 p.2], .agg #[.int .i64 q.1, .int .i64 q.2]] w1 (FaPostC w1))
    (MF0 : MapAt wr (ik .u64) bm (fun v => (F v).map Wr.val)) (cB : wr.cell? ⟨b0, 0, none⟩ = some (.slice ta hs.length cap)) (k1 : Blk wr b1 47 #[.slice none 0 0, .slice none 0 0, .bool false, .slice none 0 0, .pointer none, .slice none 0 0, .slice none 0 0, .slice none 0 0]) (V0 : VT bV vA vB (allN 0 hs) (allA 0 hs) fA fB wr) (lA : vA.n = (allN 0 hs).length) (lB : vB.n = (allA 0 hs).length)
    (n0 : b0 ≠ bV) (n1 : b1 ≠ bV) (nm : bm ≠ bV) (n1f : b1 ∉ fA ∧ b1 ∉ fB) (hgV : w.heap.size ≤ bV) (hg1 : w.heap.size ≤ b1) (hgF : ∀ k ∈ fA ++ fB, w.heap.size ≤ k) :
    q17.wp Ybaz.prog (bodyPost Ybaz.prog Ybaz.f6 (CertPostR w hs)) ⟨[u0, .pointer (some ⟨b0, 0, none⟩), .pointer (some ⟨b1, 0, none⟩), u3, .map (some bm), u5, .pointer (some ⟨bV, 0, none⟩), u7, u8, u9, u10, u11, u12, u13, u14, u15, u16, u17, u18, u19, u20, u21, u22, u23, u24, u25, u26, u27, u28, u29, u30, u31, u32, u33, u34, u35, u36, u37, u38, u39, u40, u41, u42, u43, u44, u45, u46, u47, u48, u49, u50, u51, u52, u53, u54, u55, u56, u57, u58, u59, u60, u61, u62, u63, u64, u65, u66, u67, u68, u69, u70, u71, u72, u73, u74, u75, u76, u77, u78, u79, u80, u81, u82, u83, u84, u85, u86, u87, u88, u89, u90, u91, u92, u93, u94, u95, u96, u97, u98, u99, u100, u101, u102, u103, u104, u105, u106, u107, u108, u109, u110, u111, u112, u113, u114, u115, u116, u117, u118, u119, u120, u121, u122, u123, u124, u125, u126, u127, u128, u129, u130, u131, u132, u133, u134, u135, u136, u137, u138, u139, u140, u141, u142, u143, u144, u145, u146, u147, u148, u149, u150, u151, u152, u153, u154, u155, u156, u157, u158, u159, u160, u161, u162, u163, u164, u165, u166, u167, u168, u169, u170, u171, u172, u173, u174, u175, u176, u177, u178, u179, u180, u181, u182, u183, u184, u185, u186, u187, u188, u189, u190, u191, u192, u193, u194, u195, u196, u197, u198, u199].toArray, []⟩ wr := by
  have HH : Hid _ := H
  have OH : Hid _ := O
  have WW : Hid _ := W
  have H8 : Hid (∀ s k e x, At hs s k e x → x.v < 8) := h8
  have BB : Hid (Below w.heap.size w wr) := B0
  have VH : Hid _ := V0
  have KB1 : Hid (Blk wr b1 47 #[.slice none 0 0, .slice none 0 0, .bool false, .slice none 0 0, .pointer none, .slice none 0 0, .slice none 0 0, .slice none 0 0]) := k1
  have CB : Hid (wr.cell? ⟨b0, 0, none⟩ = some (.slice ta hs.length cap)) := cB
  have N14 : Hid (ROk hs → ∀ w1, HistE w1 R hs → MapAt w1 (ik .u64) bm (fun v => (F v).map Wr.val) → Calls Ybaz.prog 14 #[.agg #[.slice ta hs.length cap], .map (some bm)] w1 (NspPostT w1 hs F)) := K14
  have N20 : Hid (∀ (w1 : World) (p q : Nat × Nat) (l : List Tx) (t : Tx) (lp : List Tx) (tp : Tx), HistE w1 R hs → MapAt w1 (ik .u64) bm (fun v => (F v).map Wr.val) → hs[q.1]? = some l → l[q.2]? = some t → hs[p.1]? = some lp → lp[p.2]? = some tp → Cause hs F p q → Calls Ybaz.prog 20 #[.agg #[.slice ta hs.length cap], .map (some bm), .agg #[.int .i64 p.1, .int .i64 p.2], .agg #[.int .i64 q.1, .int .i64 q.2]] w1 (FaPostC w1)) := K20
  have K13h : Hid (Calls Ybaz.prog 13 #[.agg #[.slice ta hs.length cap], .map (some bm)] wr (MrPostC wr hs F)) := K13 wr (H.below B0) MF0
  have MH : Hid _ := MF0
  have GF : Hid (∀ k ∈ fA ++ fB, w.heap.size ≤ k) := hgF
  have hbV : bV < wr.heap.size := V0.blk.lt
  have hb1 : b1 < wr.heap.size := k1.lt
  have hb0 : b0 < wr.heap.size := World.block_lt_of_cell? _ _ cB
  clear H O W B0 V0 k1 K13 K14 K20 MF0 hgF h8
  conv => arg 2; whnf
  go_wp2_with fail
  refine Calls.mono K13h.out ?_
  rintro e' w1 (⟨rfl, hRO, hRC, B1⟩ | ⟨bM, ra, rb, rc, rf, ra', rb', rc', rfl, kM, hgM, B1, hDM⟩)
  case inr =>
    as_aux_lemma =>
    have U1 : Upd [] wr w1 := upd_below B1
    have kV1 : Blk w1 bV 47 #[.slice vA.a vA.n vA.c, .slice vB.a vB.n vB.c, .bool false, .slice none 0 0, .pointer none, .slice none 0 0, .slice none 0 0, .slice none 0 0] := VH.out.blk.keep U1 (by simp)
    have v4 : w1.cell? ⟨bV, 4, none⟩ = some (.pointer none) := kV1.cell 4
    have f4 : w1.frozen? ⟨bV, 4, none⟩ = false := kV1.free 4
    have KM : Hid (Blk w1 bM 59 #[.int .i64 ra, .int .i64 rb, .int .i64 rc, .int .u8 rf, .int .i64 ra', .int .i64 rb', .int .i64 rc']) := kM
    have DM : Hid _ := hDM
    have UH1 : Hid (Upd [] wr w1) := U1
    clear U1 K13h cB B1 kM hDM
    go_upto_region 18 with fail
    obtain ⟨W2, hW2⟩ : ∃ z : World, z = w1.setCell ⟨bV, 4, none⟩ (.pointer (some ⟨bM, 0, none⟩)) := ⟨_, rfl⟩
    have U2 : Upd [bV] wr W2 := by rw [hW2]; exact (UH1.out.mono (by simp)).trans (Upd.store _ _ _ _) (by simp)
    have kV2 : Blk W2 bV 47 #[.slice vA.a vA.n vA.c, .slice vB.a vB.n vB.c, .bool false, .slice none 0 0, .pointer (some ⟨bM, 0, none⟩), .slice none 0 0, .slice none 0 0, .slice none 0 0] := by rw [hW2]; have := kV1.store 4 (.pointer (some ⟨bM, 0, none⟩)); simpa using this
    have kM2 : Hid (Blk W2 bM 59 #[.int .i64 ra, .int .i64 rb, .int .i64 rc, .int .u8 rf, .int .i64 ra', .int .i64 rb', .int .i64 rc']) := by rw [hW2]; exact KM.out.keep (Upd.store _ _ _ _) (by simp; omega)
    rw [← hW2]
    have KV2 : Hid (Blk W2 bV 47 #[.slice vA.a vA.n vA.c, .slice vB.a vB.n vB.c, .bool false, .slice none 0 0, .pointer (some ⟨bM, 0, none⟩), .slice none 0 0, .slice none 0 0, .slice none 0 0]) := kV2
    have UH2 : Hid (Upd [bV] wr W2) := U2
    have v4 : W2.cell? ⟨bV, 4, none⟩ = some (.pointer (some ⟨bM, 0, none⟩)) := kV2.cell 4
    clear hW2 U2 kV1 kV2 f4 N14 UH1
    go_upto_region 19 with fail
    clear v4
    have k19 : Blk W2 b1 47 #[.slice none 0 0, .slice none 0 0, .bool false, .slice none 0 0, .pointer none, .slice none 0 0, .slice none 0 0, .slice none 0 0] := KB1.out.keep UH2.out (by simpa using n1)
    have rg : Hid (W2.rangeAt bV 0 [.slice vA.a vA.n vA.c, .slice vB.a vB.n vB.c, .bool false, .slice none 0 0, .pointer (some ⟨bM, 0, none⟩), .slice none 0 0, .slice none 0 0, .slice none 0 0]) := fun j v hj => by rw [Nat.zero_add]; rw [(KV2.out).cell j]; simpa using hj
    have th : Hid (W2.there b1 0 8) := fun j hj => ⟨by rw [Nat.zero_add, k19.cell j]; simp; omega, by rw [Nat.zero_add]; exact k19.free j⟩
    have kE : Hid (Blk (W2.setCells b1 0 [.slice vA.a vA.n vA.c, .slice vB.a vB.n vB.c, .bool false, .slice none 0 0, .pointer (some ⟨bM, 0, none⟩), .slice none 0 0, .slice none 0 0, .slice none 0 0]) b1 47 [.slice vA.a vA.n vA.c, .slice vB.a vB.n vB.c, .bool false, .slice none 0 0, .pointer (some ⟨bM, 0, none⟩), .slice none 0 0, .slice none 0 0, .slice none 0 0].toArray) := by
      have := (((((((k19.store 0 (.slice vA.a vA.n vA.c)).store 1 (.slice vB.a vB.n vB.c)).store 2 (.bool false)).store 3 (.slice none 0 0)).store 4 (.pointer (some ⟨bM, 0, none⟩))).store 5 (.slice none 0 0)).store 6 (.slice none 0 0)).store 7 (.slice none 0 0)
      show Blk _ _ _ _
      simpa [World.setCells] using this
    have uE : Hid (Upd [b1] W2 (W2.setCells b1 0 [.slice vA.a vA.n vA.c, .slice vB.a vB.n vB.c, .bool false, .slice none 0 0, .pointer (some ⟨bM, 0, none⟩), .slice none 0 0, .slice none 0 0, .slice none 0 0])) := updCells b1 _ 0 W2
    clear k19
    apply wp_region_lit
    refine wpList_load_mid rfl 47 (.tmp 6) rfl bV 0 rfl [.slice vA.a vA.n vA.c, .slice vB.a vB.n vB.c, .bool false, .slice none 0 0, .pointer (some ⟨bM, 0, none⟩), .slice none 0 0, .slice none 0 0, .slice none 0 0] _ rg.out Ybaz.underlying47 rfl (by kernel_rfl) ?_
    simp only [Act.put, List.setIfInBounds_toArray, List.set_cons_zero, List.set_cons_succ]
    refine wpList_store_mid rfl 47 (.tmp 2) (.tmp 74) rfl b1 0 [.slice vA.a vA.n vA.c, .slice vB.a vB.n vB.c, .bool false, .slice none 0 0, .pointer (some ⟨bM, 0, none⟩), .slice none 0 0, .slice none 0 0, .slice none 0 0].toArray rfl rfl th.out (by kernel_rfl) (by simp [Value.oneCell']) ?_
    simp only [Act.put]
    obtain ⟨WE, hWE⟩ : ∃ z : World, z = W2.setCells b1 0 [.slice vA.a vA.n vA.c, .slice vB.a vB.n vB.c, .bool false, .slice none 0 0, .pointer (some ⟨bM, 0, none⟩), .slice none 0 0, .slice none 0 0, .slice none 0 0] := ⟨_, rfl⟩
    rw [← hWE]
    rw [← hWE] at kE uE
    clear hWE
    go_wp2_with fail
    refine bodyPost_ret (results6 _ _ b1 _ .nilIface rfl rfl kE.out (by kernel_rfl)) rfl ?_
    have U1E : Upd [bV, b1] wr WE := ((UH2.out).mono (by simp)).trans uE.out (by simp)
    have ndV := VH.out.nd
    simp only [List.nodup_cons, List.mem_append, not_or, List.nodup_append] at ndV
    have TWO : Two w WE vA vB (allN 0 hs) (allA 0 hs) := by
      refine ⟨⟨fA, ?_, fun k hk => GF.out k (by simp [hk]), fB, ?_, fun k hk => GF.out k (by simp [hk]), fun k h1 h2 => ndV.2.2.2 k h1 k h2 rfl⟩, ?_, lA, lB⟩
      · exact VH.out.sA.keep U1E (fun k hk hm => by simp at hm; rcases hm with rfl | rfl; exact ndV.1.1 hk; exact n1f.1 hk)
      · exact VH.out.sB.keep U1E (fun k hk hm => by simp at hm; rcases hm with rfl | rfl; exact ndV.1.2 hk; exact n1f.2 hk)
      · exact BB.out.trans (U1E.below BB.out.size (by simp; omega))
    refine .inr ⟨OH.out, F, vA, vB, WW.out, TWO, .inl ⟨bM, ra, rb, rc, rf, ra', rb', rc', rfl, ?_, ?_, DM.out⟩⟩
    · exact kM2.out.keep uE.out (by simp; omega)
    · have := BB.out.size; omega
  have ROH : Hid (ROk hs) := hRO
  have RCH : Hid (RC hs F hs.length 0 0) := hRC
  have U1 : Upd [] wr w1 := upd_below B1
  have kV1 : Blk w1 bV 47 #[.slice vA.a vA.n vA.c, .slice vB.a vB.n vB.c, .bool false, .slice none 0 0, .pointer none, .slice none 0 0, .slice none 0 0, .slice none 0 0] := VH.out.blk.keep U1 (by simp)
  have v4 : w1.cell? ⟨bV, 4, none⟩ = some (.pointer none) := kV1.cell 4
  have f4 : w1.frozen? ⟨bV, 4, none⟩ = false := kV1.free 4
  have UH1 : Hid (Upd [] wr w1) := U1
  clear U1 K13h cB hRO hRC
  go_upto_region 18 with fail
  obtain ⟨W2, hW2⟩ : ∃ z : World, z = w1.setCell ⟨bV, 4, none⟩ (.pointer none) := ⟨_, rfl⟩
  have U2 : Upd [bV] wr W2 := by rw [hW2]; exact (UH1.out.mono (by simp)).trans (Upd.store _ _ _ _) (by simp)
  have kV2 : Blk W2 bV 47 #[.slice vA.a vA.n vA.c, .slice vB.a vB.n vB.c, .bool false, .slice none 0 0, .pointer none, .slice none 0 0, .slice none 0 0, .slice none 0 0] := by rw [hW2]; have := kV1.store 4 (.pointer none); simpa using this
  rw [← hW2]
  have KV2 : Hid (Blk W2 bV 47 #[.slice vA.a vA.n vA.c, .slice vB.a vB.n vB.c, .bool false, .slice none 0 0, .pointer none, .slice none 0 0, .slice none 0 0, .slice none 0 0]) := kV2
  have UH2 : Hid (Upd [bV] wr W2) := U2
  have v4 : W2.cell? ⟨bV, 4, none⟩ = some (.pointer none) := kV2.cell 4
  have cB2 : W2.cell? ⟨b0, 0, none⟩ = some (.slice ta hs.length cap) := U2.cell CB.out (by simpa using n0)
  have K14b : Hid (Calls Ybaz.prog 14 #[.agg #[.slice ta hs.length cap], .map (some bm)] W2 (NspPostT W2 hs F)) := N14.out ROH.out W2 (HH.out.below (BB.out.trans (U2.below BB.out.size (by simp; omega)))) (MH.out.keep U2 (by simpa using nm))
  clear hW2 U2 kV1 kV2 f4 B1 N14 UH1
  go_wp2_with fail
  refine Calls.mono K14b.out ?_
  rintro e' w3 ⟨A, zs, NM, vars, vers, os, ss, fa, ows, G, J, bN, bF, g, sg, og, rfl, NP0, PG0, nm4, B3, hgN, hgP, hnP, hGl, hGw, hol, hsl, hAl, hRN, hMF, hTX, hgF2, hnF, hFN, hFN2, hTP⟩
  have hFd : bF ≠ bN + 1 := fun e => hnF (by simp [polyFp, e])
  have hd3 : bN + 1 < w3.heap.size := PG0.gr.lt
  have NH : Hid _ := NP0
  have PGH : Hid _ := PG0
  have NMH : Hid (NamesAt bN A.length (nmsAt A zs A.length) w3) := nm4
  have MFH : Hid (MarksAt bF A.length zs w3) := hMF
  have TXH : Hid (TxsAt (bN + 2) A.length (txsAt A zs A.length) w3) := hTX
  have UH3 : Hid (Upd [] W2 w3) := upd_below B3
  have RNH : Hid (∀ s ∈ ss, s.rd ≠ []) := hRN
  have CAH : Hid (Cau A.length (RR hs F A zs) G J) := NP0.cau OH.out
  have SZH : Hid (G.length < 10000 ∧ wt G < 800000 ∧ ss.length ≤ 8) := NP0.sizes OH.out H8.out hAl hol
  have hsz3 := B3.size
  have hsz2 := UH2.out.size
  have hwN : wr.heap.size ≤ bN := by omega
  have hlT : bN + 2 < w3.heap.size := Sl.lt (show Sl w3 105 2 (some ⟨bN + 2, 0, none⟩) A.length A.length [bN + 2] ((txsAt A zs A.length).flatMap p2C) from TXH.out) (bN + 2) (by simp)
  have hlN : bN < w3.heap.size := by omega
  have hlF : bF < w3.heap.size := by
    have := MFH.out
    exact Sl.lt (show Sl w3 3 1 (some ⟨bF, 0, none⟩) A.length A.length [bF] (zs.map nI) from this) bF (by simp)
  clear NP0 PG0 nm4 B3 hgP hnP hRN K14b v4 cB2 hMF hTX hnF hTP
  go_upto_region 21 with fail
  obtain ⟨b12, hb12⟩ : ∃ z, z = w3.heap.size := ⟨_, rfl⟩
  obtain ⟨W4, hW4⟩ : ∃ z : World, z = w3.alloc (.cells #[.pointer (some ⟨bN + 1, 0, none⟩)] 79) := ⟨_, rfl⟩
  have U34 : Upd [] w3 W4 := by rw [hW4]; exact Upd.alloc _ _ _
  have c12 : W4.cell? ⟨b12, 0, none⟩ = some (.pointer (some ⟨bN + 1, 0, none⟩)) := by rw [hW4, hb12]; exact (Blk.new w3 #[.pointer (some ⟨bN + 1, 0, none⟩)] 79).cell 0
  have PG4 : Poly (bN + 1) bN bF A.length g G J sg ss og os W4 := Poly.keeps _ _ _ _ _ _ _ _ _ _ _ _ _ [] PGH.out U34 (by simp)
  have NM4 : Hid (NamesAt bN A.length (nmsAt A zs A.length) W4) := NamesAt.keeps _ _ _ _ _ [] NMH.out U34 (by simp)
  have MF4 : Hid (MarksAt bF A.length zs W4) := MarksAt.keeps _ _ _ _ _ [] MFH.out U34 (by simp)
  have TX4 : Hid (TxsAt (bN + 2) A.length (txsAt A zs A.length) W4) := TxsAt.keeps _ _ _ _ _ [] TXH.out U34 (by simp)
  have PGH4 : Hid _ := PG4
  have UH4 : Hid (Upd [bV] wr W4) := UH2.out.trans (UH3.out.trans U34 (by simp)) (by simp)
  have KV4 : Hid (Blk W4 bV 47 #[.slice vA.a vA.n vA.c, .slice vB.a vB.n vB.c, .bool false, .slice none 0 0, .pointer none, .slice none 0 0, .slice none 0 0, .slice none 0 0]) := (KV2.out.keep UH3.out (by simp)).keep U34 (by simp)
  have C12 : Hid (W4.cell? ⟨b12, 0, none⟩ = some (.pointer (some ⟨bN + 1, 0, none⟩))) := c12
  rw [← hW4, ← hb12]
  have RNG : Hid (∀ u, ∀ x ∈ outs G u, x < G.length) := fun u x hx => (CAH.out.arcs u x (outs_arc hx)).1
  have hmG : A.length ≤ G.length := CAH.out.len
  have KC : Hid _ := comp15g W4 (bN + 1) 2 G J PG4.gr.read RNG.out hGl hGw
  have HB12 : Hid (b12 = w3.heap.size) := hb12
  have HZ4 : Hid (W4.heap.size = w3.heap.size + 1) := by show W4.heap.size = _; rw [hW4]; simp
  clear hW4 hb12 PG4 PGH NMH MFH TXH KV2 UH2 UH3 U34 hsz3 hsz2
  go_wp2_with fail
  refine Calls.mono KC.out ?_
  rintro e' w5 ⟨vS, cmp, siz, fS, rfl, s1, s2, s3, s5, B5⟩
  have U5 : Upd [] W4 w5 := upd_below B5
  have UH5 : Hid (Upd [] W4 w5) := U5
  have S1 : Hid (Sl w5 3 1 (some ⟨W4.heap.size + 4, 0, none⟩) G.length G.length [W4.heap.size + 4] (cmp.map iI)) := s1
  have S2 : Hid (Sl w5 3 1 vS.a vS.n vS.c fS (siz.map nI)) := s2
  have S3 : Hid (Comp G cmp siz) := s3
  have hsn : vS.n = siz.length := by have := s2.len; simpa using this.symm
  have c12 : w5.cell? ⟨b12, 0, none⟩ = some (.pointer (some ⟨bN + 1, 0, none⟩)) := U5.cell C12.out (by simp)
  have d0 : w5.cell? ⟨bN + 1, 0, none⟩ = some (.slice (some ⟨bN, 0, none⟩) A.length A.length) := U5.cell (PGH4.out.cell (j := 0) rfl).1 (by simp)
  have d1 : Hid (w5.cell? ⟨bN + 1, 1, none⟩ = some (.slice (some ⟨bF, 0, none⟩) A.length A.length)) := U5.cell (PGH4.out.cell (j := 1) rfl).1 (by simp)
  have C125 : Hid (w5.cell? ⟨b12, 0, none⟩ = some (.pointer (some ⟨bN + 1, 0, none⟩))) := c12
  have D0 : Hid (w5.cell? ⟨bN + 1, 0, none⟩ = some (.slice (some ⟨bN, 0, none⟩) A.length A.length)) := d0
  have M5 : Hid (∀ t x : Nat, zs[t]? = some x → w5.cell? ⟨bF, t, none⟩ = some (.int .i64 x)) := fun t x h => by
    have q : Sl W4 3 1 (some ⟨bF, 0, none⟩) A.length A.length [bF] (zs.map nI) := MF4.out
    obtain ⟨g', e1, _, e3⟩ := q.get (j := t) (v := nI x) (by simp [h])
    injection e1 with e1
    injection e1 with e1
    subst e1
    exact U5.cell e3 (by simp)
  have ZL : Hid (zs.length = A.length) := by show _ = _; have := NH.out.hp.length_eq; simpa using this
  clear s1 s2 s3 s5 B5 U5 KC
  go_wp2_with fail
  clear c12 d0
  refine wp_loopC [none, none, none, none, none, none, none, none, none, none, none, none, none, none, none, none, some (some true), some none, none, none, none, none, none, none, none, none, none, none, none, none, none, none, none, none, none, none, none, none, none, none, none, none, none, none, none, none, none, none, none, none, none, none, none, none, none, none, none, none, none, none, none, none, none, none, none, none, none, none, none, none, none, none, none, none, none, none, none, none, none, none, none, none, none, none, none, none, none, none, none, none, none, none, none, some (some false), some none, some none, some none, some none, some none, some none, some none, some none, some none, some none, some none, some none, some none, some none, some none, some none, some none, some none, some none, some none, some none, some none, some none, some none, some none, some none, some none, some none, some none, some none, some none, some none, some none, none, none, none, none, none, none, none, none, none, none, none, none, none, none, none, none, none, none, none, none, none, none, none, none, none, none, none, none, none, none, none, none, none, none, none, none, none, none, none, none, none, none, none, none, none, none, none, none, none, none, none, none, none, none, none, none, none, none, none, none, none, none, none, none, none, none, none, none, none, none, none, none, none] (fun n3 t93 t16 wx => ∃ (t q : Nat) (st : Int), t ≤ A.length ∧ n3 = A.length - t ∧ t93 = .int .i64 t ∧ t16 = .int .i64 st ∧ StI cmp siz A.length t st ∧ wx = w5.drewN q) A.length (.int .i64 0) (.int .i64 (-1)) rfl ⟨0, 0, -1, by omega, by omega, rfl, rfl, StI.start _ _ _, rfl⟩ ?_
  intro n3 uu x3 y3 wx J3 K3 hrel hJ3 hK3
  obtain ⟨t, q, st, ht1, rfl, rfl, rfl, hst, hwx⟩ := hrel
  have HJ3 : Hid _ := hJ3
  have STH : Hid (StI cmp siz A.length t st) := hst
  have HWX : Hid (wx = w5.drewN q) := hwx
  have UX : Upd [] w5 wx := by rw [hwx]; exact Upd.drewN _ _ _
  have UXH : Hid (Upd [] w5 wx) := UX
  clear hJ3 hwx hst
  dsimp only [fillC, Nat.reduceAdd]
  by_cases hltt : t < A.length
  · as_aux_lemma =>
    obtain ⟨c, hc1, hc2⟩ := S3.out.all t (by omega)
    obtain ⟨cb, e1, _, e3⟩ := S1.out.get (j := t) (v := iI c) (by simp [hc1])
    injection e1 with e1
    injection e1 with e1
    subst e1
    obtain ⟨sc, hsc⟩ := has_at siz hc2
    obtain ⟨sb, f1, _, f3⟩ := S2.out.get (j := c) (v := nI sc) (by simp [hsc])
    have g1 : wx.cell? ⟨W4.heap.size + 4, t, none⟩ = some (.int .i64 c) := UX.cell e3 (by simp)
    have g2 : wx.cell? ⟨sb, c, none⟩ = some (.int .i64 sc) := UX.cell f3 (by simp)
    have SA : Hid (vS.a = some ⟨sb, 0, none⟩) := f1
    rw [f1]
    have htG : t < G.length := by omega
    have HC1 : Hid (cmp[t]? = some (c : Int)) := hc1
    have HSC : Hid (siz[c]? = some sc) := hsc
    clear e3 f3 hc1 hsc UX f1 hsn
    go_upto_region 26 with fail
    by_cases hsc1 : 1 < sc
    · have gd1 : decide ((1 : Int) < (sc : Int)) = true := by simp; omega
      by_cases hst0 : st < 0
      · as_aux_lemma =>
        have gd2 : decide (st < 0) = true := by simp; omega
        have SN : Hid (StI cmp siz A.length (t + 1) (t : Int)) := StI.take hltt HC1.out HSC.out hsc1
        go_big_quiet (fail)
        go_wp2_with fail
        refine Met.intro ?_
        have HJ5 := HJ3.out
        rw [SA.out] at HJ5
        refine HJ5 _ _ ?_
        refine EndC.of (A.length - (t + 1)) (.int .i64 ((t : Int) + 1)) (.int .i64 (t : Int)) ?_ (by omega) ?_
        · rfl
        refine ⟨t + 1, q + nq, (t : Int), by omega, rfl, by go_num, rfl, SN.out, ?_⟩
        rw [HWX.out]
        simp [World.drewN, Nat.add_assoc]
      · have gd2 : decide (st < 0) = false := by simp; omega
        obtain ⟨x9, hx9, hx8⟩ : ∃ x9 : Nat, st = (x9 : Int) ∧ x9 < A.length := by
          rcases STH.out with ⟨h, _⟩ | ⟨x, _, _, h, h', _⟩
          · omega
          · exact ⟨x, h, h'⟩
        subst hx9
        have c12x : wx.cell? ⟨b12, 0, none⟩ = some (.pointer (some ⟨bN + 1, 0, none⟩)) := UXH.out.cell C125.out (by simp)
        have d1x : wx.cell? ⟨bN + 1, 1, none⟩ = some (.slice (some ⟨bF, 0, none⟩) A.length A.length) := UXH.out.cell d1.out (by simp)
        obtain ⟨z1, hz1⟩ := has_at zs (k := t) (by have := ZL.out; omega)
        obtain ⟨z2, hz2⟩ := has_at zs (k := x9) (by have := ZL.out; omega)
        have m1 : wx.cell? ⟨bF, t, none⟩ = some (.int .i64 z1) := UXH.out.cell (M5.out t z1 hz1) (by simp)
        have m2 : wx.cell? ⟨bF, x9, none⟩ = some (.int .i64 z2) := UXH.out.cell (M5.out x9 z2 hz2) (by simp)
        have hx7 : ¬ (x9 : Int) < 0 := hst0
        clear hz1 hz2 hst0
        by_cases hzz : z1 < z2
        · as_aux_lemma =>
          have gd3 : decide ((z1 : Int) < (z2 : Int)) = true := by simp; omega
          have SN : Hid (StI cmp siz A.length (t + 1) (t : Int)) := StI.take hltt HC1.out HSC.out hsc1
          go_big_quiet (fail)
          go_wp2_with fail
          refine Met.intro ?_
          have HJ5 := HJ3.out
          rw [SA.out] at HJ5
          refine HJ5 _ _ ?_
          refine EndC.of (A.length - (t + 1)) (.int .i64 ((t : Int) + 1)) (.int .i64 (t : Int)) ?_ (by omega) ?_
          · rfl
          refine ⟨t + 1, q + nq, (t : Int), by omega, rfl, by go_num, rfl, SN.out, ?_⟩
          rw [HWX.out]
          simp [World.drewN, Nat.add_assoc]
        · as_aux_lemma =>
          have gd3 : decide ((z1 : Int) < (z2 : Int)) = false := by simp; omega
          have SN : Hid (StI cmp siz A.length (t + 1) (x9 : Int)) := STH.out.leave hx7
          go_big_quiet (fail)
          go_wp2_with fail
          refine Met.intro ?_
          have HJ5 := HJ3.out
          rw [SA.out] at HJ5
          refine HJ5 _ _ ?_
          refine EndC.of (A.length - (t + 1)) (.int .i64 ((t : Int) + 1)) (.int .i64 (x9 : Int)) ?_ (by omega) ?_
          · rfl
          refine ⟨t + 1, q + nq, (x9 : Int), by omega, rfl, by go_num, rfl, SN.out, ?_⟩
          rw [HWX.out]
          simp [World.drewN, Nat.add_assoc]
    · as_aux_lemma =>
      have gd1 : decide ((1 : Int) < (sc : Int)) = false := by simp; omega
      have SN : Hid (StI cmp siz A.length (t + 1) st) := STH.out.small HC1.out HSC.out (by omega)
      go_big_quiet (fail)
      go_wp2_with fail
      refine Met.intro ?_
      have HJ5 := HJ3.out
      rw [SA.out] at HJ5
      refine HJ5 _ _ ?_
      refine EndC.of (A.length - (t + 1)) (.int .i64 ((t : Int) + 1)) (.int .i64 st) ?_ (by omega) ?_
      · rfl
      refine ⟨t + 1, q + nq, st, by omega, rfl, by go_num, rfl, SN.out, ?_⟩
      rw [HWX.out]
      simp [World.drewN, Nat.add_assoc]
  · as_aux_lemma =>
    have hta : t = A.length := by omega
    have STA : Hid (StI cmp siz A.length A.length st) := by have := STH.out; rw [hta] at this; exact this
    clear hta
    have c12 : wx.cell? ⟨b12, 0, none⟩ = some (.pointer (some ⟨bN + 1, 0, none⟩)) := UX.cell C125.out (by simp)
    have C12X : Hid (wx.cell? ⟨b12, 0, none⟩ = some (.pointer (some ⟨bN + 1, 0, none⟩))) := c12
    have U4x : Upd [] W4 wx := UH5.out.trans UX (by simp)
    have U4X : Hid (Upd [] W4 wx) := U4x
    have PG6 : Hid (Poly (bN + 1) bN bF A.length g G J sg ss og os wx) := Poly.keeps _ _ _ _ _ _ _ _ _ _ _ _ _ [] PGH4.out U4x (by simp)
    have hl12 : b12 < wx.heap.size := World.block_lt_of_cell? _ _ c12
    clear U4x UX
    by_cases hst0 : st < 0
    case neg =>
      as_aux_lemma =>
      obtain ⟨sx, sl, sn, hsx, hsm, hcc, hsz, hs1⟩ : ∃ (x c n : Nat), st = (x : Int) ∧ x < A.length ∧ cmp[x]? = some (c : Int) ∧ siz[c]? = some n ∧ 1 < n := by
        rcases STA.out with ⟨h, _⟩ | h
        · omega
        · exact h
      subst hsx
      have SX : Hid (Sl wx 3 1 (some ⟨W4.heap.size + 4, 0, none⟩) G.length G.length [W4.heap.size + 4] (cmp.map iI)) := S1.out.keep UXH.out (by simp)
      have K17 : Hid _ := short17 wx (bN + 1) 2 G J PG6.out.gr.read RNG.out hGl hGw sx (by omega) (W4.heap.size + 4) cmp S3.out.len (fun j x hj => by
        obtain ⟨g', e1, _, e3⟩ := SX.out.get (j := j) (v := iI x) (by simp [hj])
        injection e1 with e1
        injection e1 with e1
        subst e1
        exact e3) (sl : Int) hcc (S3.out.loop hcc hsz hs1)
      clear hsz hs1 hcc SX
      go_upto_region 30 with fail
      go_wp2_with fail
      refine Calls.mono K17.out ?_
      rintro e' w6 ⟨gK, cK, K, rfl, sK, hCy, hKl, hgK, B6⟩
      have U6 : Upd [] wx w6 := upd_below B6
      have UH6 : Hid (Upd [] wx w6) := U6
      obtain ⟨aS, kS, aJ, kJ, l1, l2, l3, l4, l5, l6⟩ := PG6.out.gr.read.lies
      have K16 : Hid _ := del16 w6 gK cK K (by omega) sK (fun x => juncAt J x) #[.pointer (some ⟨b12, 0, none⟩)] (fun Wz x hx hu => by
        have hxl := hCy.inn x hx
        obtain ⟨j, hj⟩ := has_at J (k := x) (by rw [l6.len]; exact hxl)
        obtain ⟨bJ, e1, e2⟩ := l6.jun x j hj
        have ej : juncAt J x = j := by simp [juncAt, List.getD_eq_getElem?_getD, hj]
        subst e1
        have nb : ∀ k, k < wx.heap.size → k ∉ [gK] := fun k hk hm => by simp at hm; omega
        show Calls Ybaz.prog 18 #[.int .i64 x, .pointer (some ⟨b12, 0, none⟩)] Wz _
        simp only [ej]
        exact jun18 Wz b12 (bN + 1) bJ G.length kJ x j (hu.cell (U6.cell C12X.out (by simp)) (nb _ hl12)) (hu.cell (U6.cell l2 (by simp)) (nb _ (World.block_lt_of_cell? _ _ l2))) (hu.cell (U6.cell e2 (by simp)) (nb _ (World.block_lt_of_cell? _ _ e2))) hxl)
      have CYH : Hid (Cyc G sx K) := hCy
      have HKL : Hid (K.length ≤ G.length + 1) := hKl
      clear sK hCy B6 U6 l1 l2 l3 l4 l5 l6 K17 hKl
      go_wp2_with fail
      refine Calls.mono K16.out ?_
      rintro e' w7 ⟨rfl, sC, U7⟩
      obtain ⟨hne, hlt, hRR⟩ := cyc_cause CAH.out CYH.out hsm
      obtain ⟨C, hC⟩ : ∃ C, C = K.filter (fun v => !juncAt J v) := ⟨_, rfl⟩
      have hCl : C.length < 1000000 := by
        have : C.length ≤ K.length := by rw [hC]; exact List.length_filter_le _ _
        have := HKL.out
        omega
      rw [← hC] at sC hne hlt hRR ⊢
      have hC0 : 0 < C.length := List.length_pos_iff.mpr hne
      have CLT : Hid (∀ x ∈ C, x < A.length) := hlt
      have CRR : Hid (∀ k a b, C[k]? = some a → C[(k + 1) % C.length]? = some b → RR hs F A zs a b) := hRR
      have Ux7 : Upd [] wx w7 := UH6.out.trans U7 (by simp; omega)
      have U47 : Upd [] W4 w7 := U4X.out.trans Ux7 (by simp)
      have hz37 : w3.heap.size ≤ w7.heap.size := by have := U47.size; have := HZ4.out; omega
      have SCH : Hid (Sl w7 3 1 (some ⟨gK, 0, none⟩) C.length cK [gK] (C.map nI)) := sC
      have c127 : w7.cell? ⟨b12, 0, none⟩ = some (.pointer (some ⟨bN + 1, 0, none⟩)) := Ux7.cell C12X.out (by simp)
      have NM7 : NamesAt bN A.length (nmsAt A zs A.length) w7 := NamesAt.keeps _ _ _ _ _ [] NM4.out U47 (by simp)
      have TX7 : Hid (TxsAt (bN + 2) A.length (txsAt A zs A.length) w7) := TxsAt.keeps _ _ _ _ _ [] TX4.out U47 (by simp)
      have d07 : w7.cell? ⟨bN + 1, 0, none⟩ = some (.slice (some ⟨bN, 0, none⟩) A.length A.length) := U47.cell (PGH4.out.cell (j := 0) rfl).1 (by simp)
      have hnl := nmsAt_full NH.out.hp
      have NM8 : Sl w7 9 1 (some ⟨bN, 0, none⟩) (nmsAt A zs A.length).length A.length [bN] ((nmsAt A zs A.length).map strV) := by rw [hnl]; exact NM7
      have KN := nameNodes_any w7 (some ⟨bN, 0, none⟩) (some ⟨gK, 0, none⟩) A.length cK [bN] [gK] (nmsAt A zs A.length) C NM8 sC hCl (fun t ht => by rw [hnl]; exact hlt t ht)
      rw [hnl] at KN
      have KNH : Hid _ := KN
      have KV7 : Hid (Blk w7 bV 47 #[.slice vA.a vA.n vA.c, .slice vB.a vB.n vB.c, .bool false, .slice none 0 0, .pointer none, .slice none 0 0, .slice none 0 0, .slice none 0 0]) := KV4.out.keep U47 (by simp)
      have UH7 : Hid (Upd [bV] wr w7) := UH4.out.trans U47 (by simp)
      clear NM7 NM8 KN hnl sC U7 hC hne hlt hRR Ux7 U47 K16 UH6 HKL CYH
      go_upto_region 31 with fail
      go_wp2_with fail
      refine Calls.mono KNH.out ?_
      rintro e' w8 ⟨gN, cN, rfl, sN, hgN8, B8⟩
      have U8 : Upd [] w7 w8 := upd_below B8
      have kV8 : Blk w8 bV 47 #[.slice vA.a vA.n vA.c, .slice vB.a vB.n vB.c, .bool false, .slice none 0 0, .pointer none, .slice none 0 0, .slice none 0 0, .slice none 0 0] := KV7.out.keep U8 (by simp)
      have v5 : w8.cell? ⟨bV, 5, none⟩ = some (.slice none 0 0) := kV8.cell 5
      have f5 := kV8.free 5
      have UH8 : Hid (Upd [] w7 w8) := U8
      have KV8 : Hid (Blk w8 bV 47 #[.slice vA.a vA.n vA.c, .slice vB.a vB.n vB.c, .bool false, .slice none 0 0, .pointer none, .slice none 0 0, .slice none 0 0, .slice none 0 0]) := kV8
      clear kV8 sN B8 U8 KNH c127 d07
      go_upto_region 32 with fail
      obtain ⟨W9, hW9⟩ : ∃ z : World, z = w8.setCell ⟨bV, 5, none⟩ (.slice (some ⟨gN, 0, none⟩) C.length cN) := ⟨_, rfl⟩
      have KV9 : Hid (Blk W9 bV 47 #[.slice vA.a vA.n vA.c, .slice vB.a vB.n vB.c, .bool false, .slice none 0 0, .pointer none, .slice (some ⟨gN, 0, none⟩) C.length cN, .slice none 0 0, .slice none 0 0]) := by
        show Blk _ _ _ _
        rw [hW9]
        have := KV8.out.store 5 (.slice (some ⟨gN, 0, none⟩) C.length cN)
        simpa using this
      have U79 : Hid (Upd [bV] w7 W9) := by show Upd _ _ _; rw [hW9]; exact (UH8.out.mono (by simp)).trans (Upd.store _ _ _ _) (by simp)
      rw [← hW9]
      have hV9 : bV < W9.heap.size := KV9.out.lt
      have hKV : gK ≠ bV := by have := UH4.out.size; have := U4X.out.size; omega
      have hTV : bN + 2 ≠ bV := by omega
      have hK7 : gK < w7.heap.size := SCH.out.lt gK (by simp)
      clear hW9 v5 f5 KV8 UH8
      have SR0 : Hid (Sl W9 102 8 none 0 0 [] []) := Sl.empty _ _ _
      go_wp2_with fail
      refine wp_loopC [none, none, none, none, none, none, none, none, none, none, none, none, none, none, none, none, none, none, none, some none, some none, none, none, none, none, none, none, none, none, none, none, none, none, none, none, none, none, none, none, none, none, none, none, none, none, none, none, none, none, none, none, none, none, none, none, none, none, none, none, none, none, none, none, none, none, none, none, none, none, none, none, none, none, none, none, none, none, none, none, none, none, none, none, none, none, none, none, none, none, none, none, none, none, none, none, none, none, none, none, none, none, none, none, none, none, none, none, none, none, none, none, none, none, none, none, none, none, none, none, none, none, none, none, none, none, none, none, none, none, none, none, none, none, none, none, none, none, none, none, none, none, none, none, none, none, none, some (some false), some none, some none, some none, some none, some none, some none, some none, some none, some none, some none, some none, some none, some none, some none, some none, some none, some none, some none, some none, some none, some none, some none, some none, some none, some none, some none, some none, some none, none, none, none, none, none, none, none, none, none, none, none, none, none, none, none, none, none, none, none, none, none, none, none, none, none] (fun n4 t146 _ wz => ∃ (k : Nat) (vR : SV) (fR : List Nat) (xs : List Value), k ≤ C.length ∧ n4 = C.length - k ∧ t146 = .int .i64 k ∧ vR.n = k ∧ Sl wz 102 8 vR.a vR.n vR.c fR xs ∧ (∀ k ∈ fR, W9.heap.size ≤ k) ∧ Blk wz bV 47 #[.slice vA.a vA.n vA.c, .slice vB.a vB.n vB.c, .bool false, .slice none 0 0, .pointer none, .slice (some ⟨gN, 0, none⟩) C.length cN, .slice vR.a vR.n vR.c, .slice none 0 0] ∧ Upd [bV] W9 wz) C.length (.int .i64 0) undef rfl ⟨0, ⟨none, 0, 0⟩, [], [], by omega, by omega, rfl, rfl, SR0.out, by simp, KV9.out, Upd.refl _ _⟩ ?_
      intro n4 uv x4 y4 wz J4 K4 hrel hJ4 hK4
      obtain ⟨k, vR, fR, xs, hk1, rfl, rfl, h1, h2, h3, h4, h5⟩ := hrel
      have HJ4 : Hid _ := hJ4
      have VN : Hid (vR.n = k) := h1
      have SR : Hid (Sl wz 102 8 vR.a vR.n vR.c fR xs) := h2
      have FRH : Hid (∀ k ∈ fR, W9.heap.size ≤ k) := h3
      have KVR : Hid (Blk wz bV 47 #[.slice vA.a vA.n vA.c, .slice vB.a vB.n vB.c, .bool false, .slice none 0 0, .pointer none, .slice (some ⟨gN, 0, none⟩) C.length cN, .slice vR.a vR.n vR.c, .slice none 0 0]) := h4
      have UR : Hid (Upd [bV] W9 wz) := h5
      have hvn : vR.n < 1000000000 := by omega
      clear hJ4 h1 h2 h3 h4 h5 SR0
      dsimp only [fillC, Nat.reduceAdd]
      by_cases hltk : k < C.length
      · as_aux_lemma =>
        obtain ⟨a, ha⟩ := has_at C hltk
        obtain ⟨m1, hm1⟩ : ∃ m1, m1 = (k + 1) % C.length := ⟨_, rfl⟩
        have hm2 : m1 < C.length := by rw [hm1]; exact Nat.mod_lt _ hC0
        obtain ⟨b, hb⟩ := has_at C hm2
        have hrm : Int.tmod ((k : Int) + 1) (C.length : Int) = (m1 : Int) := by
          rw [show ((k : Int) + 1) = ((k + 1 : Nat) : Int) by simp, hm1]
          rfl
        obtain ⟨_, p, r, hp, hr, hCau⟩ := CRR.out k a b ha (by rw [← hm1]; exact hb)
        have hal := CLT.out a (List.mem_of_getElem? ha)
        have hbl := CLT.out b (List.mem_of_getElem? hb)
        have U7z : Upd [bV] w7 wz := U79.out.trans UR.out (by simp)
        obtain ⟨z1, q1, _, q3⟩ := SCH.out.get (j := k) (v := nI a) (by simp [ha])
        injection q1 with q1
        injection q1 with q1
        subst q1
        obtain ⟨z2, r1, _, r3⟩ := SCH.out.get (j := m1) (v := nI b) (by simp [hb])
        injection r1 with r1
        injection r1 with r1
        subst r1
        have x1 : wz.cell? ⟨gK, k, none⟩ = some (.int .i64 a) := U7z.cell q3 (by simpa using hKV)
        have x2 : wz.cell? ⟨gK, m1, none⟩ = some (.int .i64 b) := U7z.cell r3 (by simpa using hKV)
        obtain ⟨y1, y2⟩ := TX7.out.cells NH.out.hp hp
        obtain ⟨y3, y4⟩ := TX7.out.cells NH.out.hp hr
        have y1 := U7z.cell y1 (by simpa using hTV)
        have y2 := U7z.cell y2 (by simpa using hTV)
        have y3 := U7z.cell y3 (by simpa using hTV)
        have y4 := U7z.cell y4 (by simpa using hTV)
        have cBz : wz.cell? ⟨b0, 0, none⟩ = some (.slice ta hs.length cap) := (UH7.out.trans U7z (by simp)).cell CB.out (by simpa using n0)
        have v6 : wz.cell? ⟨bV, 6, none⟩ = some (.slice vR.a vR.n vR.c) := KVR.out.cell 6
        obtain ⟨lq, tq, w1', w2', _⟩ := ats_cm NH.out.hA NH.out.hp hr
        obtain ⟨lp, tp, w3', w4', _⟩ := ats_cm NH.out.hA NH.out.hp hp
        have URz : Upd [bV] wr wz := UH7.out.trans U7z (by simp)
        have hcon : Hid (Calls Ybaz.prog 20 #[.agg #[.slice ta hs.length cap], .map (some bm), .agg #[.int .i64 p.1, .int .i64 p.2], .agg #[.int .i64 r.1, .int .i64 r.2]] wz.drew (FaPostC wz.drew)) := N20.out wz.drew p r lq tq lp tp ((HH.out.below (BB.out.trans (URz.below BB.out.size (by simp; omega)))).below (Upd.below (Upd.drew [] wz) (Nat.le_refl _) (by simp))) ((MH.out.keep URz (by simpa using nm)).keep (Upd.drew [] wz) (by simp)) w1' w2' w3' w4' hCau
        have hwrp : IntKind.i64.wrap ((k : Int) + 1) = (k : Int) + 1 := by
          have h0 : (0 : Int) ≤ (k : Int) + 1 := by omega
          have h1 : (k : Int) + 1 < 1000001 := by omega
          simp [IntKind.wrap, IntKind.bits, IntKind.signed]
          omega
        have hcl0 : ¬ C.length = 0 := by omega
        have hcl1 : ((C.length : Int) == 0) = false := by rw [beq_eq_false_iff_ne]; omega
        have hcl2 : ¬ ((C.length : Int) = 0) := by omega
        have hrm2 : ((k : Int) + 1) % (C.length : Int) = (m1 : Int) := by rw [← hrm]; exact (Int.tmod_eq_emod_of_nonneg (by omega)).symm
        clear ha hb hp hr hCau q3 r3 w1' w2' w3' w4' hm1 U7z URz
        have hbs := bs45
        go_upto_region 35 with fail
        have hz79 := U79.out.size
        have hzr7 := UH7.out.size
        have hz47 := UH4.out.size
        have nV9 : bV ∉ fR := fun hm => by have := FRH.out _ hm; omega
        have n09 : b0 ∉ fR := fun hm => by have := FRH.out _ hm; omega
        have nK9 : gK ∉ fR := fun hm => by have := FRH.out _ hm; omega
        have nT9 : bN + 2 ∉ fR := fun hm => by have := FRH.out _ hm; omega
        have SU : Hid (∀ z, Upd fR wz z → (fun z : World => z.cell? ⟨bV, 6, none⟩ = some (.slice vR.a vR.n vR.c) ∧ z.cell? ⟨b0, 0, none⟩ = some (.slice ta hs.length cap) ∧ z.cell? ⟨gK, m1, none⟩ = some (.int .i64 b) ∧ z.cell? ⟨bN + 2, a * 2, none⟩ = some (.int .i64 p.1) ∧ z.cell? ⟨bN + 2, a * 2 + 1, none⟩ = some (.int .i64 p.2) ∧ z.cell? ⟨bN + 2, b * 2, none⟩ = some (.int .i64 r.1) ∧ z.cell? ⟨bN + 2, b * 2 + 1, none⟩ = some (.int .i64 r.2)) z) := fun z hu => ⟨hu.cell v6 nV9, hu.cell cBz n09, hu.cell x2 nK9, hu.cell y1 nT9, hu.cell y2 nT9, hu.cell y3 nT9, hu.cell y4 nT9⟩
        clear v6 cBz x1 x2 y1 y2 y3 y4
        refine wp_region_noPanic ?_
        refine wp_lex (fun z : World => z.cell? ⟨bV, 6, none⟩ = some (.slice vR.a vR.n vR.c) ∧ z.cell? ⟨b0, 0, none⟩ = some (.slice ta hs.length cap) ∧ z.cell? ⟨gK, m1, none⟩ = some (.int .i64 b) ∧ z.cell? ⟨bN + 2, a * 2, none⟩ = some (.int .i64 p.1) ∧ z.cell? ⟨bN + 2, a * 2 + 1, none⟩ = some (.int .i64 p.2) ∧ z.cell? ⟨bN + 2, b * 2, none⟩ = some (.int .i64 r.1) ∧ z.cell? ⟨bN + 2, b * 2 + 1, none⟩ = some (.int .i64 r.2)) (fun k => decide (k < 22)) (fun k => decide (k < 19)) (by kernel_rfl) (by kernel_rfl) (by kernel_rfl) (fun _ _ _ _ _ h => h) ?_
        have HSH : Hid ((fun z : World => z.cell? ⟨bV, 6, none⟩ = some (.slice vR.a vR.n vR.c) ∧ z.cell? ⟨b0, 0, none⟩ = some (.slice ta hs.length cap) ∧ z.cell? ⟨gK, m1, none⟩ = some (.int .i64 b) ∧ z.cell? ⟨bN + 2, a * 2, none⟩ = some (.int .i64 p.1) ∧ z.cell? ⟨bN + 2, a * 2 + 1, none⟩ = some (.int .i64 p.2) ∧ z.cell? ⟨bN + 2, b * 2, none⟩ = some (.int .i64 r.1) ∧ z.cell? ⟨bN + 2, b * 2 + 1, none⟩ = some (.int .i64 r.2)) wz.drew) := SU.out _ (Upd.drew _ _)
        iterate 11 (
          refine LexN.take rfl HSH.out ?_ rfl ?_ ?_
          rotate_left
          · intro z hz
            obtain ⟨hz1, hz2, hz3, hz4, hz5, hz6, hz7⟩ := hz
            go_simp
            try with_reducible rfl
          simp only [Act.put, List.setIfInBounds_toArray, List.set_cons_zero, List.set_cons_succ])
        refine LexN.take rfl HSH.out (.int .i64 ((k : Int) + 1)) rfl ?_ ?_
        · intro z hz
          go_simp
          try (rw [hwrp])
        simp only [Act.put, List.setIfInBounds_toArray, List.set_cons_zero, List.set_cons_succ]
        iterate 2 (
          refine LexN.take rfl HSH.out ?_ rfl ?_ ?_
          rotate_left
          · intro z hz
            obtain ⟨hz1, hz2, hz3, hz4, hz5, hz6, hz7⟩ := hz
            go_simp
            try with_reducible rfl
          simp only [Act.put, List.setIfInBounds_toArray, List.set_cons_zero, List.set_cons_succ])
        refine LexN.take rfl HSH.out (.int .i64 (m1 : Int)) rfl ?_ ?_
        · intro z hz
          go_simp
        simp only [Act.put, List.setIfInBounds_toArray, List.set_cons_zero, List.set_cons_succ]
        iterate 4 (
          refine LexN.take rfl HSH.out ?_ rfl ?_ ?_
          rotate_left
          · intro z hz
            obtain ⟨hz1, hz2, hz3, hz4, hz5, hz6, hz7⟩ := hz
            go_simp
            try with_reducible rfl
          simp only [Act.put, List.setIfInBounds_toArray, List.set_cons_zero, List.set_cons_succ])
        refine LexN.step rfl rfl rfl (fun K hK => ?_)
        go_simp
        refine Calls.mono hcon.out ?_
        rintro e' w6 ⟨fk, fa1, fa2, fa3, fb1, fb2, fb3, fp, rfl, B6⟩
        have U6 : Hid (Upd [] wz w6) := (Upd.drew [] wz).trans (upd_below B6) (by simp)
        obtain ⟨gR, cR, w7', hrun, hUf, g6, g7, g8, xs', R1, R2, R3, R4⟩ := arcStepU (vC := ⟨some ⟨gN, 0, none⟩, C.length, cN⟩) SR.out FRH.out KVR.out UR.out hV9 U6.out hvn fk fa1 fa2 fa3 fb1 fb2 fb3 fp
        have R1h : Hid _ := R1
        have R2h : Hid _ := R2
        have R3h : Hid _ := R3
        have R4h : Hid _ := R4
        clear R1 R2 R3 R4 B6
        have UFH : Hid (Upd fR wz w7') := (U6.out.mono (by simp)).trans hUf (fun q hq => .inl hq)
        clear hUf
        refine hK.out _ _ (fun _ => SU.out _ (U6.out.mono (by simp))) ?_
        refine LexN.step rfl rfl rfl (fun K hK => ?_)
        go_simp
        refine hK.out _ _ (fun _ => SU.out _ ((U6.out.trans (Upd.alloc [] _ _) (by simp)).mono (by simp))) ?_
        refine LexN.step rfl rfl rfl (fun K hK => ?_)
        go_simp
        refine hK.out _ _ (fun _ => SU.out _ UFH.out) ?_
        iterate 2 (
          refine LexN.step rfl rfl rfl (fun K hK => ?_)
          go_simp
          refine hK.out _ _ (fun h => by cases h) ?_)
        refine LexN.nil (NoPanic.normal ?_)
        go_wp2_with fail
        refine Met.intro ?_
        refine HJ4.out _ _ ?_
        refine EndC.of (C.length - (k + 1)) (.int .i64 ((k : Int) + 1)) undef ?_ (by omega) ?_
        · rfl
        exact ⟨k + 1, ⟨some ⟨gR, 0, none⟩, vR.n + 1, cR⟩, [gR], xs', by omega, rfl, by go_num, by have := VN.out; show vR.n + 1 = k + 1; omega, R1h.out, R2h.out, R3h.out, R4h.out⟩
      · as_aux_lemma =>
        go_upto_region 37 with fail
        have UHZ : Hid (Upd [bV] wr wz) := UH7.out.trans (U79.out.trans UR.out (by simp)) (by simp)
        have k19 : Blk wz b1 47 #[.slice none 0 0, .slice none 0 0, .bool false, .slice none 0 0, .pointer none, .slice none 0 0, .slice none 0 0, .slice none 0 0] := KB1.out.keep UHZ.out (by simpa using n1)
        have rg : Hid (wz.rangeAt bV 0 [.slice vA.a vA.n vA.c, .slice vB.a vB.n vB.c, .bool false, .slice none 0 0, .pointer none, .slice (some ⟨gN, 0, none⟩) C.length cN, .slice vR.a vR.n vR.c, .slice none 0 0]) := fun j v hj => by rw [Nat.zero_add]; rw [(KVR.out).cell j]; simpa using hj
        have th : Hid (wz.there b1 0 8) := fun j hj => ⟨by rw [Nat.zero_add, k19.cell j]; simp; omega, by rw [Nat.zero_add]; exact k19.free j⟩
        have kE : Hid (Blk (wz.setCells b1 0 [.slice vA.a vA.n vA.c, .slice vB.a vB.n vB.c, .bool false, .slice none 0 0, .pointer none, .slice (some ⟨gN, 0, none⟩) C.length cN, .slice vR.a vR.n vR.c, .slice none 0 0]) b1 47 [.slice vA.a vA.n vA.c, .slice vB.a vB.n vB.c, .bool false, .slice none 0 0, .pointer none, .slice (some ⟨gN, 0, none⟩) C.length cN, .slice vR.a vR.n vR.c, .slice none 0 0].toArray) := by
          have := (((((((k19.store 0 (.slice vA.a vA.n vA.c)).store 1 (.slice vB.a vB.n vB.c)).store 2 (.bool false)).store 3 (.slice none 0 0)).store 4 (.pointer none)).store 5 (.slice (some ⟨gN, 0, none⟩) C.length cN)).store 6 (.slice vR.a vR.n vR.c)).store 7 (.slice none 0 0)
          show Blk _ _ _ _
          simpa [World.setCells] using this
        have uE : Hid (Upd [b1] wz (wz.setCells b1 0 [.slice vA.a vA.n vA.c, .slice vB.a vB.n vB.c, .bool false, .slice none 0 0, .pointer none, .slice (some ⟨gN, 0, none⟩) C.length cN, .slice vR.a vR.n vR.c, .slice none 0 0])) := updCells b1 _ 0 wz
        clear k19
        apply wp_region_lit
        refine wpList_load_mid rfl 47 (.tmp 6) rfl bV 0 rfl [.slice vA.a vA.n vA.c, .slice vB.a vB.n vB.c, .bool false, .slice none 0 0, .pointer none, .slice (some ⟨gN, 0, none⟩) C.length cN, .slice vR.a vR.n vR.c, .slice none 0 0] _ rg.out Ybaz.underlying47 rfl (by kernel_rfl) ?_
        simp only [Act.put, List.setIfInBounds_toArray, List.set_cons_zero, List.set_cons_succ]
        refine wpList_store_mid rfl 47 (.tmp 2) (.tmp 175) rfl b1 0 [.slice vA.a vA.n vA.c, .slice vB.a vB.n vB.c, .bool false, .slice none 0 0, .pointer none, .slice (some ⟨gN, 0, none⟩) C.length cN, .slice vR.a vR.n vR.c, .slice none 0 0].toArray rfl rfl th.out (by kernel_rfl) (by simp [Value.oneCell']) ?_
        simp only [Act.put]
        obtain ⟨WE, hWE⟩ : ∃ z : World, z = wz.setCells b1 0 [.slice vA.a vA.n vA.c, .slice vB.a vB.n vB.c, .bool false, .slice none 0 0, .pointer none, .slice (some ⟨gN, 0, none⟩) C.length cN, .slice vR.a vR.n vR.c, .slice none 0 0] := ⟨_, rfl⟩
        rw [← hWE]
        rw [← hWE] at kE uE
        clear hWE
        go_wp2_with fail
        refine bodyPost_ret (results6 _ _ b1 _ .nilIface rfl rfl kE.out (by kernel_rfl)) rfl ?_
        have U1E : Upd [bV, b1] wr WE := ((UHZ.out).mono (by simp)).trans uE.out (by simp)
        have ndV := VH.out.nd
        simp only [List.nodup_cons, List.mem_append, not_or, List.nodup_append] at ndV
        have TWO : Two w WE vA vB (allN 0 hs) (allA 0 hs) := by
          refine ⟨⟨fA, ?_, fun k hk => GF.out k (by simp [hk]), fB, ?_, fun k hk => GF.out k (by simp [hk]), fun k h1 h2 => ndV.2.2.2 k h1 k h2 rfl⟩, ?_, lA, lB⟩
          · exact VH.out.sA.keep U1E (fun k hk hm => by simp at hm; rcases hm with rfl | rfl; exact ndV.1.1 hk; exact n1f.1 hk)
          · exact VH.out.sB.keep U1E (fun k hk hm => by simp at hm; rcases hm with rfl | rfl; exact ndV.1.2 hk; exact n1f.2 hk)
          · exact BB.out.trans (U1E.below BB.out.size (by simp; omega))
        exact .inr ⟨OH.out, F, vA, vB, WW.out, TWO, .inr (.inl ⟨RCH.out, ⟨none, 0, 0⟩, ⟨some ⟨gN, 0, none⟩, C.length, cN⟩, vR, ⟨none, 0, 0⟩, rfl⟩)⟩
    have SM : Hid (∀ t < A.length, ∀ (c k : Nat), cmp[t]? = some (c : Int) → siz[c]? = some k → k ≤ 1) := by
      rcases STA.out with ⟨_, h⟩ | ⟨x, _, _, h, _⟩
      · exact h
      · omega
    have HJJ : Hid (∀ x, x < G.length → (juncAt J x = false ↔ x < A.length)) := fun x hx => by
      constructor
      · intro h
        by_cases c : x < A.length
        · exact c
        · have := CAH.out.high x (by omega) hx
          rw [h] at this
          cases this
      · intro h
        exact CAH.out.low x h
    have KS : Hid _ := search21g wx (bN + 1) A.length bN bF hAl g G J sg ss og os PG6.out (NH.out.srok OH.out RNH.out H8.out) hmG HJJ.out (CAH.out.acy (fun x h => h.1 rfl) S3.out SM.out) RNG.out SZH.out.1 SZH.out.2.1 (fun t ht => by
        obtain ⟨z, hz⟩ := has_at zs (k := t) (by have := ZL.out; omega)
        exact ⟨z, UXH.out.cell (M5.out t z hz) (by simp)⟩) (by have := U4X.out.size; have := HZ4.out; omega) (by omega) (by omega) (by have := SZH.out.2.2; omega)
    go_upto_region 38 with fail
    go_wp2_with fail
    refine Calls.mono KS.out ?_
    rintro e' w7 ⟨U7, d07, (⟨gK, cK, K, rfl, ⟨hK0, hK12⟩, hKm, sK⟩ | ⟨vP, P, fP, D, G', rfl, sP, hPD, htr, hG'l, hG'r, hsub, hall, hnw⟩)⟩
    · as_aux_lemma =>
      have c127 : w7.cell? ⟨b12, 0, none⟩ = some (.pointer (some ⟨bN + 1, 0, none⟩)) := U7.cell C12X.out (by simp; have := HB12.out; omega)
      have NM7 : NamesAt bN A.length (nmsAt A zs A.length) w7 := NamesAt.keeps _ _ _ _ _ [bN + 1] (NamesAt.keeps _ _ _ _ _ [] NM4.out U4X.out (by simp)) U7 (by simp)
      have hnl := nmsAt_full NH.out.hp
      have NM8 : Sl w7 9 1 (some ⟨bN, 0, none⟩) (nmsAt A zs A.length).length A.length [bN] ((nmsAt A zs A.length).map strV) := by rw [hnl]; exact NM7
      have hKl : K.length < 1000000 := by omega
      have KN := nameNodes_any w7 (some ⟨bN, 0, none⟩) (some ⟨gK, 0, none⟩) A.length cK [bN] [gK] (nmsAt A zs A.length) K NM8 sK hKl (fun t ht => by rw [hnl]; exact hKm t ht)
      rw [hnl] at KN
      have KNH : Hid _ := KN
      have kV7 : Blk w7 bV 47 #[.slice vA.a vA.n vA.c, .slice vB.a vB.n vB.c, .bool false, .slice none 0 0, .pointer none, .slice none 0 0, .slice none 0 0, .slice none 0 0] := (KV4.out.keep U4X.out (by simp)).keep U7 (by simp; omega)
      have UH7 : Hid (Upd [bV] wr w7) := (UH4.out.trans U4X.out (by simp)).trans U7 (by simp; omega)
      have KV7 : Hid (Blk w7 bV 47 #[.slice vA.a vA.n vA.c, .slice vB.a vB.n vB.c, .bool false, .slice none 0 0, .pointer none, .slice none 0 0, .slice none 0 0, .slice none 0 0]) := kV7
      clear NM7 NM8 KN hnl sK U7 kV7 KS hK0 hKm hKl hK12
      go_upto_region 40 with fail
      go_wp2_with fail
      refine Calls.mono KNH.out ?_
      rintro e' w8 ⟨gN, cN, rfl, sN, hgN8, B8⟩
      have U8 : Upd [] w7 w8 := upd_below B8
      have kV8 : Blk w8 bV 47 #[.slice vA.a vA.n vA.c, .slice vB.a vB.n vB.c, .bool false, .slice none 0 0, .pointer none, .slice none 0 0, .slice none 0 0, .slice none 0 0] := KV7.out.keep U8 (by simp)
      have v7 : w8.cell? ⟨bV, 7, none⟩ = some (.slice none 0 0) := kV8.cell 7
      have f7 := kV8.free 7
      have UH8 : Hid (Upd [bV] wr w8) := UH7.out.trans U8 (by simp)
      have KV8 : Hid (Blk w8 bV 47 #[.slice vA.a vA.n vA.c, .slice vB.a vB.n vB.c, .bool false, .slice none 0 0, .pointer none, .slice none 0 0, .slice none 0 0, .slice none 0 0]) := kV8
      clear kV8 sN B8 U8 KNH c127 d07
      go_upto_region 41 with fail
      obtain ⟨W9, hW9⟩ : ∃ z : World, z = w8.setCell ⟨bV, 7, none⟩ (.slice (some ⟨gN, 0, none⟩) K.length cN) := ⟨_, rfl⟩
      have KV9 : Hid (Blk W9 bV 47 #[.slice vA.a vA.n vA.c, .slice vB.a vB.n vB.c, .bool false, .slice none 0 0, .pointer none, .slice none 0 0, .slice none 0 0, .slice (some ⟨gN, 0, none⟩) K.length cN]) := by
        show Blk _ _ _ _
        rw [hW9]
        have := KV8.out.store 7 (.slice (some ⟨gN, 0, none⟩) K.length cN)
        simpa using this
      have UH9 : Hid (Upd [bV] wr W9) := by show Upd _ _ _; rw [hW9]; exact UH8.out.trans (Upd.store _ _ _ _) (by simp)
      rw [← hW9]
      clear hW9 v7 f7 KV8 UH8

      have k19 : Blk W9 b1 47 #[.slice none 0 0, .slice none 0 0, .bool false, .slice none 0 0, .pointer none, .slice none 0 0, .slice none 0 0, .slice none 0 0] := KB1.out.keep UH9.out (by simpa using n1)
      have rg : Hid (W9.rangeAt bV 0 [.slice vA.a vA.n vA.c, .slice vB.a vB.n vB.c, .bool false, .slice none 0 0, .pointer none, .slice none 0 0, .slice none 0 0, .slice (some ⟨gN, 0, none⟩) K.length cN]) := fun j v hj => by rw [Nat.zero_add]; rw [(KV9.out).cell j]; simpa using hj
      have th : Hid (W9.there b1 0 8) := fun j hj => ⟨by rw [Nat.zero_add, k19.cell j]; simp; omega, by rw [Nat.zero_add]; exact k19.free j⟩
      have kE : Hid (Blk (W9.setCells b1 0 [.slice vA.a vA.n vA.c, .slice vB.a vB.n vB.c, .bool false, .slice none 0 0, .pointer none, .slice none 0 0, .slice none 0 0, .slice (some ⟨gN, 0, none⟩) K.length cN]) b1 47 [.slice vA.a vA.n vA.c, .slice vB.a vB.n vB.c, .bool false, .slice none 0 0, .pointer none, .slice none 0 0, .slice none 0 0, .slice (some ⟨gN, 0, none⟩) K.length cN].toArray) := by
        have := (((((((k19.store 0 (.slice vA.a vA.n vA.c)).store 1 (.slice vB.a vB.n vB.c)).store 2 (.bool false)).store 3 (.slice none 0 0)).store 4 (.pointer none)).store 5 (.slice none 0 0)).store 6 (.slice none 0 0)).store 7 (.slice (some ⟨gN, 0, none⟩) K.length cN)
        show Blk _ _ _ _
        simpa [World.setCells] using this
      have uE : Hid (Upd [b1] W9 (W9.setCells b1 0 [.slice vA.a vA.n vA.c, .slice vB.a vB.n vB.c, .bool false, .slice none 0 0, .pointer none, .slice none 0 0, .slice none 0 0, .slice (some ⟨gN, 0, none⟩) K.length cN])) := updCells b1 _ 0 W9
      clear k19
      apply wp_region_lit
      refine wpList_load_mid rfl 47 (.tmp 6) rfl bV 0 rfl [.slice vA.a vA.n vA.c, .slice vB.a vB.n vB.c, .bool false, .slice none 0 0, .pointer none, .slice none 0 0, .slice none 0 0, .slice (some ⟨gN, 0, none⟩) K.length cN] _ rg.out Ybaz.underlying47 rfl (by kernel_rfl) ?_
      simp only [Act.put, List.setIfInBounds_toArray, List.set_cons_zero, List.set_cons_succ]
      refine wpList_store_mid rfl 47 (.tmp 2) (.tmp 190) rfl b1 0 [.slice vA.a vA.n vA.c, .slice vB.a vB.n vB.c, .bool false, .slice none 0 0, .pointer none, .slice none 0 0, .slice none 0 0, .slice (some ⟨gN, 0, none⟩) K.length cN].toArray rfl rfl th.out (by kernel_rfl) (by simp [Value.oneCell']) ?_
      simp only [Act.put]
      obtain ⟨WE, hWE⟩ : ∃ z : World, z = W9.setCells b1 0 [.slice vA.a vA.n vA.c, .slice vB.a vB.n vB.c, .bool false, .slice none 0 0, .pointer none, .slice none 0 0, .slice none 0 0, .slice (some ⟨gN, 0, none⟩) K.length cN] := ⟨_, rfl⟩
      rw [← hWE]
      rw [← hWE] at kE uE
      clear hWE
      go_wp2_with fail
      refine bodyPost_ret (results6 _ _ b1 _ .nilIface rfl rfl kE.out (by kernel_rfl)) rfl ?_
      have U1E : Upd [bV, b1] wr WE := ((UH9.out).mono (by simp)).trans uE.out (by simp)
      have ndV := VH.out.nd
      simp only [List.nodup_cons, List.mem_append, not_or, List.nodup_append] at ndV
      have TWO : Two w WE vA vB (allN 0 hs) (allA 0 hs) := by
        refine ⟨⟨fA, ?_, fun k hk => GF.out k (by simp [hk]), fB, ?_, fun k hk => GF.out k (by simp [hk]), fun k h1 h2 => ndV.2.2.2 k h1 k h2 rfl⟩, ?_, lA, lB⟩
        · exact VH.out.sA.keep U1E (fun k hk hm => by simp at hm; rcases hm with rfl | rfl; exact ndV.1.1 hk; exact n1f.1 hk)
        · exact VH.out.sB.keep U1E (fun k hk hm => by simp at hm; rcases hm with rfl | rfl; exact ndV.1.2 hk; exact n1f.2 hk)
        · exact BB.out.trans (U1E.below BB.out.size (by simp; omega))

      exact .inr ⟨OH.out, F, vA, vB, WW.out, TWO, .inr (.inl ⟨RCH.out, ⟨none, 0, 0⟩, ⟨none, 0, 0⟩, ⟨none, 0, 0⟩, ⟨some ⟨gN, 0, none⟩, K.length, cN⟩, rfl⟩)⟩
    · as_aux_lemma =>
      have c127 : w7.cell? ⟨b12, 0, none⟩ = some (.pointer (some ⟨bN + 1, 0, none⟩)) := U7.cell C12X.out (by simp; have := HB12.out; omega)
      have NM7 : NamesAt bN A.length (nmsAt A zs A.length) w7 := NamesAt.keeps _ _ _ _ _ [bN + 1] (NamesAt.keeps _ _ _ _ _ [] NM4.out U4X.out (by simp)) U7 (by simp)
      have hnl := nmsAt_full NH.out.hp
      have NM8 : Sl w7 9 1 (some ⟨bN, 0, none⟩) (nmsAt A zs A.length).length A.length [bN] ((nmsAt A zs A.length).map strV) := by rw [hnl]; exact NM7
      have hPO : POR hs A zs os ss P := NH.out.por OH.out ROH.out hPD htr hG'l hsub hG'r hall hnw
      have PDH : Hid (POR hs A zs os ss P) := hPO
      have hDn : vP.n = P.length := by have := sP.len; simpa using this.symm
      have hDl : P.length ≤ 12 := by have := nodup_len A.length P hPO.nd (fun v hv => (hPO.mem v).mp hv); omega
      rw [hDn] at sP
      have KN := nameNodes_any w7 (some ⟨bN, 0, none⟩) vP.a A.length vP.c [bN] fP (nmsAt A zs A.length) P NM8 sP (by omega) (fun t ht => by rw [hnl]; exact (hPO.mem t).mp ht)
      rw [hnl, ← hDn] at KN
      have KNH : Hid _ := KN
      have HDN : Hid (vP.n = P.length) := hDn
      have kV7 : Blk w7 bV 47 #[.slice vA.a vA.n vA.c, .slice vB.a vB.n vB.c, .bool false, .slice none 0 0, .pointer none, .slice none 0 0, .slice none 0 0, .slice none 0 0] := (KV4.out.keep U4X.out (by simp)).keep U7 (by simp; omega)
      have UH7 : Hid (Upd [bV] wr w7) := (UH4.out.trans U4X.out (by simp)).trans U7 (by simp; omega)
      have KV7 : Hid (Blk w7 bV 47 #[.slice vA.a vA.n vA.c, .slice vB.a vB.n vB.c, .bool false, .slice none 0 0, .pointer none, .slice none 0 0, .slice none 0 0, .slice none 0 0]) := kV7
      clear NM7 NM8 KN hnl sP hPO U7 kV7 hDn KS hPD htr hG'l hG'r hsub hall hnw
      go_upto_region 42 with fail
      go_wp2_with fail
      refine Calls.mono KNH.out ?_
      rintro e' w8 ⟨gN, cN, rfl, sN, hgN8, B8⟩
      have U8 : Upd [] w7 w8 := upd_below B8
      have kV8 : Blk w8 bV 47 #[.slice vA.a vA.n vA.c, .slice vB.a vB.n vB.c, .bool false, .slice none 0 0, .pointer none, .slice none 0 0, .slice none 0 0, .slice none 0 0] := KV7.out.keep U8 (by simp)
      have v2 : w8.cell? ⟨bV, 2, none⟩ = some (.bool false) := kV8.cell 2
      have v3 : w8.cell? ⟨bV, 3, none⟩ = some (.slice none 0 0) := kV8.cell 3
      have f2 := kV8.free 2
      have f3 := kV8.free 3
      have UH8 : Hid (Upd [bV] wr w8) := UH7.out.trans U8 (by simp)
      have SN : Hid (Sl w8 9 1 (some ⟨gN, 0, none⟩) vP.n cN [gN] ((nmsOf (nmsAt A zs A.length) P).map strV)) := sN
      have KV8 : Hid (Blk w8 bV 47 #[.slice vA.a vA.n vA.c, .slice vB.a vB.n vB.c, .bool false, .slice none 0 0, .pointer none, .slice none 0 0, .slice none 0 0, .slice none 0 0]) := kV8
      have hsz7 := UH7.out.size
      clear kV8 sN B8 U8 KNH c127 d07
      go_upto_region 43 with fail
      obtain ⟨W9, hW9⟩ : ∃ z : World, z = (w8.setCell ⟨bV, 2, none⟩ (.bool true)).setCell ⟨bV, 3, none⟩ (.slice (some ⟨gN, 0, none⟩) vP.n cN) := ⟨_, rfl⟩
      have KV9 : Hid (Blk W9 bV 47 #[.slice vA.a vA.n vA.c, .slice vB.a vB.n vB.c, .bool true, .slice (some ⟨gN, 0, none⟩) vP.n cN, .pointer none, .slice none 0 0, .slice none 0 0, .slice none 0 0]) := by
        show Blk _ _ _ _
        rw [hW9]
        have := (KV8.out.store 2 (.bool true)).store 3 (.slice (some ⟨gN, 0, none⟩) vP.n cN)
        simpa using this
      have UH9 : Hid (Upd [bV] wr W9) := by show Upd _ _ _; rw [hW9]; exact (UH8.out.trans (Upd.store _ _ _ _) (by simp)).trans (Upd.store _ _ _ _) (by simp)
      have UH89 : Hid (Upd [bV] w8 W9) := by show Upd _ _ _; rw [hW9]; exact (Upd.store _ _ _ _).trans (Upd.store _ _ _ _) (by simp)
      rw [← hW9]
      clear hW9 v2 v3 f2 f3 KV8 UH8

      have k19 : Blk W9 b1 47 #[.slice none 0 0, .slice none 0 0, .bool false, .slice none 0 0, .pointer none, .slice none 0 0, .slice none 0 0, .slice none 0 0] := KB1.out.keep UH9.out (by simpa using n1)
      have rg : Hid (W9.rangeAt bV 0 [.slice vA.a vA.n vA.c, .slice vB.a vB.n vB.c, .bool true, .slice (some ⟨gN, 0, none⟩) vP.n cN, .pointer none, .slice none 0 0, .slice none 0 0, .slice none 0 0]) := fun j v hj => by rw [Nat.zero_add]; rw [(KV9.out).cell j]; simpa using hj
      have th : Hid (W9.there b1 0 8) := fun j hj => ⟨by rw [Nat.zero_add, k19.cell j]; simp; omega, by rw [Nat.zero_add]; exact k19.free j⟩
      have kE : Hid (Blk (W9.setCells b1 0 [.slice vA.a vA.n vA.c, .slice vB.a vB.n vB.c, .bool true, .slice (some ⟨gN, 0, none⟩) vP.n cN, .pointer none, .slice none 0 0, .slice none 0 0, .slice none 0 0]) b1 47 [.slice vA.a vA.n vA.c, .slice vB.a vB.n vB.c, .bool true, .slice (some ⟨gN, 0, none⟩) vP.n cN, .pointer none, .slice none 0 0, .slice none 0 0, .slice none 0 0].toArray) := by
        have := (((((((k19.store 0 (.slice vA.a vA.n vA.c)).store 1 (.slice vB.a vB.n vB.c)).store 2 (.bool true)).store 3 (.slice (some ⟨gN, 0, none⟩) vP.n cN)).store 4 (.pointer none)).store 5 (.slice none 0 0)).store 6 (.slice none 0 0)).store 7 (.slice none 0 0)
        show Blk _ _ _ _
        simpa [World.setCells] using this
      have uE : Hid (Upd [b1] W9 (W9.setCells b1 0 [.slice vA.a vA.n vA.c, .slice vB.a vB.n vB.c, .bool true, .slice (some ⟨gN, 0, none⟩) vP.n cN, .pointer none, .slice none 0 0, .slice none 0 0, .slice none 0 0])) := updCells b1 _ 0 W9
      clear k19
      apply wp_region_lit
      refine wpList_load_mid rfl 47 (.tmp 6) rfl bV 0 rfl [.slice vA.a vA.n vA.c, .slice vB.a vB.n vB.c, .bool true, .slice (some ⟨gN, 0, none⟩) vP.n cN, .pointer none, .slice none 0 0, .slice none 0 0, .slice none 0 0] _ rg.out Ybaz.underlying47 rfl (by kernel_rfl) ?_
      simp only [Act.put, List.setIfInBounds_toArray, List.set_cons_zero, List.set_cons_succ]
      refine wpList_store_mid rfl 47 (.tmp 2) (.tmp 199) rfl b1 0 [.slice vA.a vA.n vA.c, .slice vB.a vB.n vB.c, .bool true, .slice (some ⟨gN, 0, none⟩) vP.n cN, .pointer none, .slice none 0 0, .slice none 0 0, .slice none 0 0].toArray rfl rfl th.out (by kernel_rfl) (by simp [Value.oneCell']) ?_
      simp only [Act.put]
      obtain ⟨WE, hWE⟩ : ∃ z : World, z = W9.setCells b1 0 [.slice vA.a vA.n vA.c, .slice vB.a vB.n vB.c, .bool true, .slice (some ⟨gN, 0, none⟩) vP.n cN, .pointer none, .slice none 0 0, .slice none 0 0, .slice none 0 0] := ⟨_, rfl⟩
      rw [← hWE]
      rw [← hWE] at kE uE
      clear hWE
      go_wp2_with fail
      refine bodyPost_ret (results6 _ _ b1 _ .nilIface rfl rfl kE.out (by kernel_rfl)) rfl ?_
      have U1E : Upd [bV, b1] wr WE := ((UH9.out).mono (by simp)).trans uE.out (by simp)
      have ndV := VH.out.nd
      simp only [List.nodup_cons, List.mem_append, not_or, List.nodup_append] at ndV
      have TWO : Two w WE vA vB (allN 0 hs) (allA 0 hs) := by
        refine ⟨⟨fA, ?_, fun k hk => GF.out k (by simp [hk]), fB, ?_, fun k hk => GF.out k (by simp [hk]), fun k h1 h2 => ndV.2.2.2 k h1 k h2 rfl⟩, ?_, lA, lB⟩
        · exact VH.out.sA.keep U1E (fun k hk hm => by simp at hm; rcases hm with rfl | rfl; exact ndV.1.1 hk; exact n1f.1 hk)
        · exact VH.out.sB.keep U1E (fun k hk hm => by simp at hm; rcases hm with rfl | rfl; exact ndV.1.2 hk; exact n1f.2 hk)
        · exact BB.out.trans (U1E.below BB.out.size (by simp; omega))

      have U8E : Upd [bV, b1] w8 WE := (UH89.out.mono (by simp)).trans uE.out (by simp)
      refine .inr ⟨OH.out, F, vA, vB, WW.out, TWO, .inr (.inr ⟨RCH.out, gN, cN, P, A, zs, NM, vars, vers, os, ss, fa, ows, G, J, by rw [HDN.out], NH.out, PDH.out, ?_, ?_⟩)⟩
      · have := SN.out
        rw [HDN.out] at this
        exact this.keep U8E (fun k hk hm => by simp at hk hm; omega)
      · have := BB.out.size
        omega
end Go.Proofs.YbulkctquGreatFmt

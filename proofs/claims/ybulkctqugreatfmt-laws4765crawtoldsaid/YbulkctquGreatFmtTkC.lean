/-
  takeUp, where nothing is taken up: its second part.
-/
import Derived.Test.YbulkctquGreatFmtTkB
import Derived.Test.YbulkctquGreatFmtNspM
import Derived.Deep.RegionWith
import Derived.BigQuiet
import Derived.Deep.DeepCutAuto
namespace Go.Proofs.YbulkctquGreatFmt
open Go.ChangeShapes Go.WideShapes Go.ChangeAt Go.RowKit Go.Ord
set_option linter.unusedVariables false

theorem idxOf_at {P : List Nat} (nd : P.Nodup) {i x : Nat} (h : P[i]? = some x) : P.idxOf x = i := by
  have hl := (List.getElem?_eq_some_iff.mp h).1
  have hx : x ∈ P := List.mem_of_getElem? h
  have h2 : P[P.idxOf x]? = some x := by rw [List.getElem?_eq_getElem (List.idxOf_lt_length_iff.mpr hx)]; simp
  exact nodup_at nd h2 h
theorem at_idxOf {P : List Nat} {x : Nat} (h : x ∈ P) : P[P.idxOf x]? = some x := by
  rw [List.getElem?_eq_getElem (List.idxOf_lt_length_iff.mpr h)]; simp
/-- The rows that takeUp has sorted. -/
def PwRow (b3 : Nat) (P : List Nat) (x : Nat) (o : Ob) (w : World) : Prop := ∃ (rb : Nat) (zs : List Nat), w.cell? ⟨b3, x, none⟩ = some (.slice (some ⟨rb, 0, none⟩) o.wr.length o.wr.length) ∧ rb ≠ b3 ∧ zs.Perm (List.range o.wr.length) ∧ (∀ i j a b : Nat, i < j → zs[i]? = some a → zs[j]? = some b → ¬ P.idxOf (o.wr.getD b 0) < P.idxOf (o.wr.getD a 0)) ∧ ∀ (j z : Nat), zs[j]? = some z → w.cell? ⟨rb, j, none⟩ = some (.int .i64 z)
noncomputable def k20 : Code := ((Ybaz.f48.body.bind (fromReg 20)).getD .skip)
set_option maxHeartbeats 16000000 in
set_option maxRecDepth 100000 in
theorem tk20 {u1 u2 u3 u4 u6 u7 u10 u11 u12 u13 u14 u15 u16 u17 u18 u19 u20 u21 u22 u23 u24 u25 u26 u27 u28 u29 u30 u31 u32 u33 u34 u35 u36 u37 u38 u39 u40 u41 u42 u43 u44 u45 u46 u47 u48 u49 u50 u51 u52 u53 u54 u55 u56 u57 u58 u59 u60 u61 u62 u63 u64 u65 u66 u67 u68 u69 u70 u71 u72 u73 u74 u75 u76 u77 u78 u79 u80 u81 u82 u83 u84 u85 u86 u87 u88 u89 u90 u91 u92 u93 u94 u95 u96 u97 u98 u99 u100 u101 u102 u103 u104 u105 u106 u107 u108 u109 u110 u111 u112 u113 u114 u115 u116 u117 u118 u119 u120 u121 u122 u123 u124 u125 u126 u127 u128 u129 u130 u131 u132 u133 u134 u135 u136 u137 u138 u139 u140 u141 u142 u143 u144 u145 u146 u147 u148 u149 u150 u151 u152 u153 u154 u155 u156 u157 u158 u159 u160 u161 u162 u163 u164 u165 u166 u167 u168 u169 u170 u171 u172 : Value} (w : World) (d b0 b1 b2 b3 m : Nat) (hm : m ≤ 12) (og : OG) (os : List Ob) (co : w.cell? ⟨d, 5, none⟩ = some (.slice og.a os.length og.c)) (hO : Objs w og os) (sg : SG) (ss : List Sr) (cs : w.cell? ⟨d, 4, none⟩ = some (.slice sg.a ss.length sg.c)) (hS : Srcs w sg ss) (cc : w.cell? ⟨d, 6, none⟩ = some (.slice none 0 0))
    (P : List Nat) (nd : P.Nodup) (mem : ∀ x, x ∈ P ↔ x < m) (hos : ∀ o ∈ os, (∀ t ∈ o.wr, t < m) ∧ o.wr.Nodup ∧ o.wr.length ≤ m) (hss : ∀ s ∈ ss, s.wr < m ∧ (∀ t ∈ s.rd, t < m) ∧ s.rd ≠ [] ∧ s.rd.length ≤ m ∧ ∃ o, os[s.ob]? = some o ∧ s.wr ∈ o.wr) (hlo : os.length < 1000) (hls : ss.length < 1000)
    (non : ∀ (k : Nat) (s : Sr) (o : Ob) (t u : Nat), ss[k]? = some s → os[s.ob]? = some o → t ∈ s.rd → u ∈ o.wr → Befo P s.wr u → t = u ∨ Befo P t u)
    (W0 : World) (B0 : Below w.heap.size w W0) (c1 : W0.cell? ⟨b1, 0, none⟩ = some (.slice (some ⟨b0, 0, none⟩) m m)) (cp : ∀ t, t < m → W0.cell? ⟨b0, t, none⟩ = some (.int .i64 (P.idxOf t : Nat))) (c2 : W0.cell? ⟨b2, 0, none⟩ = some (.func (.func 76) #[] #[.pointer (some ⟨b1, 0, none⟩)]))
    (rows : ∀ (x : Nat) (o : Ob), os[x]? = some o → PwRow b3 P x o W0) :
    k20.wp Ybaz.prog (bodyPost Ybaz.prog Ybaz.f48 (fun e w' => e = .returned (.bool false) ∧ Below w.heap.size w w')) ⟨[.pointer (some ⟨d, 0, none⟩), u1, u2, u3, u4, .pointer (some ⟨b1, 0, none⟩), u6, u7, .pointer (some ⟨b2, 0, none⟩), .slice (some ⟨b3, 0, none⟩) os.length os.length, u10, u11, u12, u13, u14, u15, u16, u17, u18, u19, u20, u21, u22, u23, u24, u25, u26, u27, u28, u29, u30, u31, u32, u33, u34, u35, u36, u37, u38, u39, u40, u41, u42, u43, u44, u45, u46, u47, u48, u49, u50, u51, u52, u53, u54, u55, u56, u57, u58, u59, u60, u61, u62, u63, u64, u65, u66, u67, u68, u69, u70, u71, u72, u73, u74, u75, u76, u77, u78, u79, u80, u81, u82, u83, u84, u85, u86, u87, u88, u89, u90, u91, u92, u93, u94, u95, u96, u97, u98, u99, u100, u101, u102, u103, u104, u105, u106, u107, u108, u109, u110, u111, u112, u113, u114, u115, u116, u117, u118, u119, u120, u121, u122, u123, u124, u125, u126, u127, u128, u129, u130, u131, u132, u133, u134, u135, u136, u137, u138, u139, u140, u141, u142, u143, u144, u145, u146, u147, u148, u149, u150, u151, u152, u153, u154, u155, u156, u157, u158, u159, u160, u161, u162, u163, u164, u165, u166, u167, u168, u169, u170, u171, u172].toArray, []⟩ W0 := by
  have HO : Hid _ := hO
  have HS : Hid _ := hS
  have ND : Hid (P.Nodup) := nd
  have MEM : Hid (∀ x, x ∈ P ↔ x < m) := mem
  have HOS : Hid (∀ o ∈ os, (∀ t ∈ o.wr, t < m) ∧ o.wr.Nodup ∧ o.wr.length ≤ m) := hos
  have HSS : Hid (∀ s ∈ ss, s.wr < m ∧ (∀ t ∈ s.rd, t < m) ∧ s.rd ≠ [] ∧ s.rd.length ≤ m ∧ ∃ o, os[s.ob]? = some o ∧ s.wr ∈ o.wr) := hss
  have NON : Hid (∀ (k : Nat) (s : Sr) (o : Ob) (t u : Nat), ss[k]? = some s → os[s.ob]? = some o → t ∈ s.rd → u ∈ o.wr → Befo P s.wr u → t = u ∨ Befo P t u) := non
  have BB : Hid (Below w.heap.size w W0) := B0
  have CO : Hid (w.cell? ⟨d, 5, none⟩ = some (.slice og.a os.length og.c)) := co
  have CC : Hid (w.cell? ⟨d, 6, none⟩ = some (.slice none 0 0)) := cc
  have C1 : Hid (W0.cell? ⟨b1, 0, none⟩ = some (.slice (some ⟨b0, 0, none⟩) m m)) := c1
  have C2 : Hid (W0.cell? ⟨b2, 0, none⟩ = some (.func (.func 76) #[] #[.pointer (some ⟨b1, 0, none⟩)])) := c2
  have CP : Hid (∀ t, t < m → W0.cell? ⟨b0, t, none⟩ = some (.int .i64 (P.idxOf t : Nat))) := cp
  have ROWS : Hid (∀ (x : Nat) (o : Ob), os[x]? = some o → PwRow b3 P x o W0) := rows
  have hd : d < w.heap.size := World.block_lt_of_cell? _ _ co
  have e6 : W0.cell? ⟨d, 6, none⟩ = some (.slice none 0 0) := (B0.cell hd).trans cc
  have e4 : W0.cell? ⟨d, 4, none⟩ = some (.slice sg.a ss.length sg.c) := (B0.cell hd).trans cs
  clear hO hS nd mem hos hss non B0 co cc c1 c2 cp rows cs
  conv => arg 2; whnf
  go_wp2_with fail
  clear e6 e4
  refine wp_loopC [none, none, none, none, none, none, none, none, none, none, none, none, none, none, some none, some none, some none, some none, some none, some none, some none, none, some none, none, none, none, none, none, none, none, none, none, none, none, none, none, none, none, none, none, none, none, none, none, none, none, none, none, none, none, none, none, none, none, none, none, none, none, none, none, none, none, none, none, none, none, none, none, none, none, none, none, none, none, none, none, none, none, none, none, none, none, none, none, none, none, none, none, none, none, none, none, none, none, none, none, some (some false), some none, some none, some none, some none, some none, some none, some none, some none, some none, some none, some none, some none, some none, some none, some none, some none, some none, some none, some none, some none, some none, some none, some none, some none, some none, some none, some none, some none, some none, some none, some none, some none, some none, some none, some none, some none, some none, some none, some none, some none, some none, some none, some none, some none, some none, some none, some none, some none, some none, some none, some none, some none, some none, some none, some none, some none, some none, some none, some none, some none, some none, some none, some none, some none, some none, some none, some none, some none, some none, none, none, none, none, none, none, none] (fun n4 t96 _ wr => ∃ k : Nat, k ≤ ss.length ∧ n4 = ss.length - k ∧ t96 = .int .i64 k ∧ Below W0.heap.size W0 wr) ss.length (.int .i64 0) undef rfl ⟨0, by omega, by omega, rfl, Below.refl _ _⟩ ?_
  intro n4 u4 x4 y4 wr J4 K4 hrel hJ4 hK4
  obtain ⟨k, hk1, rfl, rfl, h1⟩ := hrel
  have HJ4 : Hid _ := hJ4
  have BR : Hid (Below W0.heap.size W0 wr) := h1
  clear hJ4 h1
  dsimp only [fillC, Nat.reduceAdd]
  by_cases hltk : k < ss.length
  · as_aux_lemma =>
    obtain ⟨s, hs⟩ := has_at ss hltk
    obtain ⟨hw1, hw2, hw3, hw4, o, ho, hw5⟩ := HSS.out s (List.mem_of_getElem? hs)
    have SK : Hid (ss[k]? = some s) := hs
    have OK : Hid (os[s.ob]? = some o) := ho
    have WO : Hid (s.wr ∈ o.wr) := hw5
    have RD : Hid (∀ t ∈ s.rd, t < m) := hw2
    have RN : Hid (s.rd ≠ []) := hw3
    have hol : s.ob < os.length := (List.getElem?_eq_some_iff.mp ho).1
    obtain ⟨ho1, ho2, ho3⟩ := HOS.out o (List.mem_of_getElem? ho)
    have OW1 : Hid (∀ t ∈ o.wr, t < m) := ho1
    have OND : Hid (o.wr.Nodup) := ho2
    obtain ⟨bS, vs, fS, q1, q2, q3, q4, q5, q6, q7, q8, q9⟩ := HS.out.at hs
    obtain ⟨bO, s0, s1, s2, f0, f1, p1, p2, p3, p4, p5, p6, p7, _⟩ := HO.out.at ho
    have BW : Below w.heap.size w wr := BB.out.trans (BR.out.mono BB.out.size)
    have cw : ∀ {b j : Nat} {v : Value}, w.cell? ⟨b, j, none⟩ = some v → wr.cell? ⟨b, j, none⟩ = some v := fun {b j v} h => (BW.cell (World.block_lt_of_cell? _ _ h)).trans h
    have c0 : ∀ {b j : Nat} {v : Value}, W0.cell? ⟨b, j, none⟩ = some v → wr.cell? ⟨b, j, none⟩ = some v := fun {b j v} h => (BR.out.cell (World.block_lt_of_cell? _ _ h)).trans h
    have eR : ∃ bR, vs.a = some ⟨bR, 0, none⟩ ∧ ∀ (j z : Nat), s.rd[j]? = some z → w.cell? ⟨bR, j, none⟩ = some (.int .i64 z) := by
      have h0 : 0 < s.rd.length := by cases h : s.rd with | nil => exact absurd h hw3 | cons a r => simp
      obtain ⟨z0, hz0⟩ := has_at s.rd h0
      obtain ⟨bR, g1, _, _⟩ := q7.get (j := 0) (v := nI z0) (by simp [hz0])
      refine ⟨bR, g1, fun j z hz => ?_⟩
      obtain ⟨bR', g2, _, g3⟩ := q7.get (j := j) (v := nI z) (by simp [hz])
      rw [g1] at g2; injection g2 with g2; injection g2 with g2; subst g2
      exact g3
    obtain ⟨bR, eR1, eR2⟩ := eR
    rw [eR1, q6] at q5
    have RC : Hid (∀ (j z : Nat), s.rd[j]? = some z → w.cell? ⟨bR, j, none⟩ = some (.int .i64 z)) := eR2
    have eW : ∃ bw, s0.a = some ⟨bw, 0, none⟩ ∧ ∀ (j z : Nat), o.wr[j]? = some z → w.cell? ⟨bw, j, none⟩ = some (.int .i64 z) := by
      obtain ⟨j0, hj0⟩ := List.getElem?_of_mem hw5
      obtain ⟨bw, g1, _, _⟩ := p6.get (j := j0) (v := nI s.wr) (by simp [hj0])
      refine ⟨bw, g1, fun j z hz => ?_⟩
      obtain ⟨bw', g2, _, g3⟩ := p6.get (j := j) (v := nI z) (by simp [hz])
      rw [g1] at g2; injection g2 with g2; injection g2 with g2; subst g2
      exact g3
    obtain ⟨bw, eW1, eW2⟩ := eW
    rw [eW1, p5] at p2
    have WC : Hid (∀ (j z : Nat), o.wr[j]? = some z → w.cell? ⟨bw, j, none⟩ = some (.int .i64 z)) := eW2
    have x0 := cw q2
    have x1 := cw q3
    have x2 := cw q4
    have x3 := cw q5
    have P2 : Hid (w.cell? ⟨bO, s.ob * 3, none⟩ = some (.slice (some ⟨bw, 0, none⟩) o.wr.length s0.c)) := p2
    have P3 : Hid (w.cell? ⟨bO, s.ob * 3 + 1, none⟩ = some (.slice s1.a s1.n s1.c)) := p3
    have P4 : Hid (w.cell? ⟨bO, s.ob * 3 + 2, none⟩ = some (.slice s2.a s2.n s2.c)) := p4
    have OA : Hid (og.a = some ⟨bO, 0, none⟩) := p1
    have SA : Hid (sg.a = some ⟨bS, 0, none⟩) := q1
    rw [q1]
    have BWH : Hid (Below w.heap.size w wr) := BW
    clear hs hw2 hw3 ho hw5 ho1 ho2 q1 q2 q3 q4 q5 q6 q7 q8 q9 p1 p2 p3 p4 p5 p6 p7 cw c0 eR1 eR2 eW1 eW2 BW
    go_upto_region 24 with fail
    obtain ⟨bQ, hbQ⟩ : ∃ z, z = wr.heap.size := ⟨_, rfl⟩
    obtain ⟨W1, hW1⟩ : ∃ z : World, z = wr.alloc (.cells #[.int .i64 s.ob, .int .i64 s.wr, .int .i64 s.rk, .slice (some ⟨bR, 0, none⟩) s.rd.length vs.c] 142) := ⟨_, rfl⟩
    have bQ7 : Blk W1 bQ 142 #[.int .i64 s.ob, .int .i64 s.wr, .int .i64 s.rk, .slice (some ⟨bR, 0, none⟩) s.rd.length vs.c] := by rw [hW1, hbQ]; exact Blk.new _ _ _
    have U1 : Upd [] wr W1 := by rw [hW1]; exact Upd.alloc _ _ _
    rw [← hW1, ← hbQ]
    clear hW1 x0 x1 x2 x3
    have B1 : Hid (Below w.heap.size w W1) := BWH.out.trans (U1.below BWH.out.size (by simp))
    have B01 : Hid (Below W0.heap.size W0 W1) := BR.out.trans (U1.below BR.out.size (by simp))
    have BQH : Hid (Blk W1 bQ 142 #[.int .i64 s.ob, .int .i64 s.wr, .int .i64 s.rk, .slice (some ⟨bR, 0, none⟩) s.rd.length vs.c]) := bQ7
    have y3 : W1.cell? ⟨bQ, 3, none⟩ = some (.slice (some ⟨bR, 0, none⟩) s.rd.length vs.c) := bQ7.cell 3
    have f2 : W1.cell? ⟨b2, 0, none⟩ = some (.func (.func 76) #[] #[.pointer (some ⟨b1, 0, none⟩)]) := (B01.out.cell (World.block_lt_of_cell? _ _ C2.out)).trans C2.out
    have KM : Hid _ := max78 W1 bR vs.c s.rd RN.out (by omega) (fun t => P.idxOf t) #[.pointer (some ⟨b1, 0, none⟩)] (fun j z hz => (B1.out.cell (World.block_lt_of_cell? _ _ (RC.out j z hz))).trans (RC.out j z hz)) (fun q x y hx hy => byPos76 (W1.drewN q) b1 b0 m m x y (P.idxOf x) (P.idxOf y) (by omega) (RD.out x hx) (RD.out y hy) ((B01.out.cell (World.block_lt_of_cell? _ _ C1.out)).trans C1.out) ((B01.out.cell (World.block_lt_of_cell? _ _ (CP.out x (RD.out x hx)))).trans (CP.out x (RD.out x hx))) ((B01.out.cell (World.block_lt_of_cell? _ _ (CP.out y (RD.out y hy)))).trans (CP.out y (RD.out y hy))))
    clear bQ7 U1 hbQ
    go_wp2_with fail
    refine Calls.mono KM.out ?_
    rintro e' w' ⟨la, hla1, hla2, rfl, qq, rfl⟩
    have LA1 : Hid (la ∈ s.rd) := hla1
    have LA2 : Hid (∀ y ∈ s.rd, P.idxOf y ≤ P.idxOf la) := hla2
    clear hla1 hla2 KM y3 f2
    go_upto_region 25 with fail
    obtain ⟨W2, hW2⟩ : ∃ z : World, z = W1.drewN qq := ⟨_, rfl⟩
    have U2 : Upd [] W1 W2 := by rw [hW2]; exact Upd.drewN _ _ _
    rw [← hW2]
    clear hW2
    have B2 : Hid (Below w.heap.size w W2) := B1.out.trans (U2.below B1.out.size (by simp))
    have B02 : Hid (Below W0.heap.size W0 W2) := B01.out.trans (U2.below B01.out.size (by simp))
    have BQ2 : Hid (Blk W2 bQ 142 #[.int .i64 s.ob, .int .i64 s.wr, .int .i64 s.rk, .slice (some ⟨bR, 0, none⟩) s.rd.length vs.c]) := Blk.keep BQH.out U2 (by simp)
    clear U2 B1 B01 BQH
    have y0 : W2.cell? ⟨bQ, 0, none⟩ = some (.int .i64 s.ob) := Blk.cell BQ2.out 0
    have d5 : W2.cell? ⟨d, 5, none⟩ = some (.slice (some ⟨bO, 0, none⟩) os.length og.c) := (B2.out.cell hd).trans (by rw [CO.out, OA.out])
    have g0 : W2.cell? ⟨bO, s.ob * 3, none⟩ = some (.slice (some ⟨bw, 0, none⟩) o.wr.length s0.c) := (B2.out.cell (World.block_lt_of_cell? _ _ P2.out)).trans P2.out
    have g1 : W2.cell? ⟨bO, s.ob * 3 + 1, none⟩ = some (.slice s1.a s1.n s1.c) := (B2.out.cell (World.block_lt_of_cell? _ _ P3.out)).trans P3.out
    have g2 : W2.cell? ⟨bO, s.ob * 3 + 2, none⟩ = some (.slice s2.a s2.n s2.c) := (B2.out.cell (World.block_lt_of_cell? _ _ P4.out)).trans P4.out
    have ya : ∀ o', (W2.alloc o').cell? ⟨bQ, 0, none⟩ = some (.int .i64 s.ob) := fun o' => (Upd.alloc [] W2 o').cell y0 (by simp)
    have da : ∀ o', (W2.alloc o').cell? ⟨d, 5, none⟩ = some (.slice (some ⟨bO, 0, none⟩) os.length og.c) := fun o' => (Upd.alloc [] W2 o').cell d5 (by simp)
    have ga0 : ∀ o', (W2.alloc o').cell? ⟨bO, s.ob * 3, none⟩ = some (.slice (some ⟨bw, 0, none⟩) o.wr.length s0.c) := fun o' => (Upd.alloc [] W2 o').cell g0 (by simp)
    have ga1 : ∀ o', (W2.alloc o').cell? ⟨bO, s.ob * 3 + 1, none⟩ = some (.slice s1.a s1.n s1.c) := fun o' => (Upd.alloc [] W2 o').cell g1 (by simp)
    have ga2 : ∀ o', (W2.alloc o').cell? ⟨bO, s.ob * 3 + 2, none⟩ = some (.slice s2.a s2.n s2.c) := fun o' => (Upd.alloc [] W2 o').cell g2 (by simp)
    refine wp_cutC [none, none, none, none, none, none, none, none, none, none, none, none, none, none, none, none, none, some (some false), none, none, none, none, none, none, none, none, none, none, none, none, none, none, none, none, none, none, none, none, none, none, none, none, none, none, none, none, none, none, none, none, none, none, none, none, none, none, none, none, none, none, none, none, none, none, none, none, none, none, none, none, none, none, none, none, none, none, none, none, none, none, none, none, none, none, none, none, none, none, none, none, none, none, none, none, none, none, none, none, none, none, none, none, none, none, none, some none, some none, some none, some none, some none, some none, some none, some none, none, none, none, none, none, none, none, none, none, none, none, none, none, none, none, none, none, none, none, none, none, none, none, none, none, none, none, none, none, none, none, none, none, none, none, none, none, none, none, none, none, none, none, none, none, none, none, none, none, none, none, none, none, none, none, none, none, none, none, none] (fun t17 _ wd => ∃ bq : Nat, t17 = .pointer (some ⟨bq, 0, none⟩) ∧ Below W2.heap.size W2 wd ∧ wd.cell? ⟨bq, 0, none⟩ = some (.slice (some ⟨bw, 0, none⟩) o.wr.length s0.c)) ?_ ?_
    · as_aux_lemma =>
      intro J8 K8 hJ8 hK8
      have HJ8 : Hid _ := hJ8
      clear hJ8
      go_big_region
      go_wp2_with fail
      refine Met.intro ?_
      refine HJ8.out _ _ ?_
      refine MeetC.of (.pointer (some ⟨W2.heap.size, 0, none⟩)) undef ?_ ?_
      · rfl
      refine ⟨W2.heap.size, rfl, ?_, ?_⟩
      · exact ((Upd.alloc [] W2 _).trans (Upd.drew [] _) (by simp)).below (Nat.le_refl _) (by simp)
      · exact (Upd.drew [] _).cell ((Blk.new W2 _ _).cell 0) (by simp)
    · as_aux_lemma =>
      intro uc xc yc wd hcut
      obtain ⟨bq, rfl, h1, h2⟩ := hcut
      dsimp only [fillC, Nat.reduceAdd]
      have B3 : Below w.heap.size w wd := B2.out.trans (h1.mono B2.out.size)
      have B03 : Below W0.heap.size W0 wd := B02.out.trans (h1.mono B02.out.size)
      have y0 : wd.cell? ⟨bQ, 0, none⟩ = some (.int .i64 s.ob) := (h1.cell (Blk.lt BQ2.out)).trans (Blk.cell BQ2.out 0)
      have y1 : wd.cell? ⟨bQ, 1, none⟩ = some (.int .i64 s.wr) := (h1.cell (Blk.lt BQ2.out)).trans (Blk.cell BQ2.out 1)
      have c1 : wd.cell? ⟨b1, 0, none⟩ = some (.slice (some ⟨b0, 0, none⟩) m m) := (B03.cell (World.block_lt_of_cell? _ _ C1.out)).trans C1.out
      have cs : wd.cell? ⟨b0, s.wr, none⟩ = some (.int .i64 (P.idxOf s.wr : Nat)) := (B03.cell (World.block_lt_of_cell? _ _ (CP.out s.wr hw1))).trans (CP.out s.wr hw1)
      obtain ⟨rb, zs, r1, r2, r3, r4, r5⟩ := ROWS.out s.ob o OK.out
      have rc : wd.cell? ⟨b3, s.ob, none⟩ = some (.slice (some ⟨rb, 0, none⟩) o.wr.length o.wr.length) := (B03.cell (World.block_lt_of_cell? _ _ r1)).trans r1
      have zc : ∀ (j z : Nat), zs[j]? = some z → wd.cell? ⟨rb, j, none⟩ = some (.int .i64 z) := fun j z hz => (B03.cell (World.block_lt_of_cell? _ _ (r5 j z hz))).trans (r5 j z hz)
      have ow : ∀ (j z : Nat), o.wr[j]? = some z → wd.cell? ⟨bw, j, none⟩ = some (.int .i64 z) := fun j z hz => (B3.cell (World.block_lt_of_cell? _ _ (WC.out j z hz))).trans (WC.out j z hz)
      have zl : zs.length = o.wr.length := by have := r3.length_eq; simpa using this
      have zm : ∀ z ∈ zs, z < o.wr.length := fun z hz => by have := r3.mem_iff.mp hz; simpa using this
      have KB := bin79 wd rb o.wr.length zs (by omega) (fun i => P.idxOf (o.wr.getD i 0)) (P.idxOf s.wr) #[.pointer (some ⟨b1, 0, none⟩), .pointer (some ⟨bq, 0, none⟩)] zc r4 (fun q z hz => by
        obtain ⟨t, ht⟩ := has_at o.wr (zm z hz)
        have hg : o.wr.getD z 0 = t := by simp [ht]
        have htm := OW1.out t (List.mem_of_getElem? ht)
        have := cmp80 (wd.drewN q) b1 b0 m m (by omega) c1 bq bw o.wr.length s0.c (by omega) h2 z t (P.idxOf t) (P.idxOf s.wr) (zm z hz) htm (ow z t ht) ((B03.cell (World.block_lt_of_cell? _ _ (CP.out t htm))).trans (CP.out t htm))
        simp only [hg]
        exact this)
      rw [zl] at KB
      have KBH : Hid _ := KB
      have ZC : Hid (∀ (j z : Nat), zs[j]? = some z → wd.cell? ⟨rb, j, none⟩ = some (.int .i64 z)) := zc
      have OWC : Hid (∀ (j z : Nat), o.wr[j]? = some z → wd.cell? ⟨bw, j, none⟩ = some (.int .i64 z)) := ow
      have R3 : Hid (zs.Perm (List.range o.wr.length)) := r3
      have R4 : Hid (∀ i j a b : Nat, i < j → zs[i]? = some a → zs[j]? = some b → ¬ P.idxOf (o.wr.getD b 0) < P.idxOf (o.wr.getD a 0)) := r4
      have B3H : Hid (Below w.heap.size w wd) := B3
      have B03H : Hid (Below W0.heap.size W0 wd) := B03
      have H2 : Hid (wd.cell? ⟨bq, 0, none⟩ = some (.slice (some ⟨bw, 0, none⟩) o.wr.length s0.c)) := h2
      clear KB zc ow r1 r2 r3 r4 r5 B3 B03 h1 h2 zm
      go_wp2_with fail
      refine Calls.mono KBH.out ?_
      rintro e' w' ⟨i, ff, hi1, hi2, hi3, rfl, qq3, rfl⟩
      have hpos : ∃ j0, i ≤ j0 ∧ ∃ z0, zs[j0]? = some z0 ∧ o.wr[z0]? = some s.wr := by
        obtain ⟨z0, hz0⟩ := List.getElem?_of_mem WO.out
        have hzl := (List.getElem?_eq_some_iff.mp hz0).1
        obtain ⟨j0, hj0⟩ := List.getElem?_of_mem (R3.out.mem_iff.mpr (by simpa using hzl) : z0 ∈ zs)
        refine ⟨j0, ?_, z0, hj0, hz0⟩
        rcases Nat.lt_or_ge j0 i with h | h
        · have h2 := hi2 j0 z0 h hj0
          have hg : o.wr.getD z0 0 = s.wr := by simp [hz0]
          rw [hg] at h2; omega
        · exact h
      obtain ⟨j0, hj1, z0, hj2, hj3⟩ := hpos
      have hj4 := (List.getElem?_eq_some_iff.mp hj2).1
      have hin : i < o.wr.length := by omega
      have key : ∀ z, zs[i + 1]? = some z → ∃ u, o.wr[z]? = some u ∧ u ∈ o.wr ∧ P.idxOf la ≤ P.idxOf u := by
        intro z hz
        have hzm : z < o.wr.length := by have := R3.out.mem_iff.mp (List.mem_of_getElem? hz); simpa using this
        obtain ⟨u, hu⟩ := has_at o.wr hzm
        have hum := List.mem_of_getElem? hu
        refine ⟨u, hu, hum, ?_⟩
        have hgu : o.wr.getD z 0 = u := by simp [hu]
        have h1 := hi3 (i + 1) z (by omega) hz
        rw [hgu] at h1
        have zn : zs.Nodup := R3.out.nodup_iff.mpr List.nodup_range
        have hne : u ≠ s.wr := by
          intro e
          subst e
          have hz0 : z = z0 := nodup_at OND.out hu hj3
          subst hz0
          have hj : i + 1 = j0 := nodup_at zn hz hj2
          obtain ⟨z1, hz1⟩ := has_at zs (k := i) (by omega)
          have hz1m : z1 < o.wr.length := by have := R3.out.mem_iff.mp (List.mem_of_getElem? hz1); simpa using this
          obtain ⟨u1, hu1⟩ := has_at o.wr hz1m
          have hg1 : o.wr.getD z1 0 = u1 := by simp [hu1]
          have h2 := hi3 i z1 (by omega) hz1
          have h3 := R4.out i (i + 1) z1 z (by omega) hz1 hz
          rw [hgu, hg1] at h3
          rw [hg1] at h2
          have h4 : P.idxOf u1 = P.idxOf s.wr := by omega
          have m1 := (MEM.out u1).mpr (OW1.out u1 (List.mem_of_getElem? hu1))
          have m2 := (MEM.out s.wr).mpr (OW1.out s.wr hum)
          have h5 := at_idxOf m1
          rw [h4, at_idxOf m2] at h5
          injection h5 with h5
          subst h5
          have := nodup_at OND.out hu1 hu
          subst this
          have := nodup_at zn hz1 hz
          omega
        have ms := (MEM.out s.wr).mpr hw1
        have mu := (MEM.out u).mpr (OW1.out u hum)
        have ml := (MEM.out la).mpr (RD.out la LA1.out)
        have hlt : P.idxOf s.wr < P.idxOf u := by
          rcases Nat.lt_or_eq_of_le h1 with h | h
          · exact h
          · have h5 := at_idxOf ms
            rw [h, at_idxOf mu] at h5
            injection h5 with h5
            exact absurd h5 hne
        rcases NON.out k s o la u SK.out OK.out LA1.out hum ((befo_at ND.out).mpr ⟨_, _, hlt, at_idxOf ms, at_idxOf mu⟩) with h | h
        · rw [h]; omega
        · obtain ⟨a, b, h2, h3, h4⟩ := (befo_at ND.out).mp h
          have h5 := idxOf_at ND.out h3
          have h6 := idxOf_at ND.out h4
          omega
      have KEY : Hid (∀ z, zs[i + 1]? = some z → ∃ u, o.wr[z]? = some u ∧ u ∈ o.wr ∧ P.idxOf la ≤ P.idxOf u) := key
      clear hi2 hi3 key hj1 hj2 hj3 hj4 KBH y0 y1 cs rc
      obtain ⟨W3, hW3⟩ : ∃ z : World, z = wd.drewN qq3 := ⟨_, rfl⟩
      have U3 : Upd [] wd W3 := by rw [hW3]; exact Upd.drewN _ _ _
      have c13 : W3.cell? ⟨b1, 0, none⟩ = some (.slice (some ⟨b0, 0, none⟩) m m) := U3.cell c1 (by simp)
      have cq3 : W3.cell? ⟨bq, 0, none⟩ = some (.slice (some ⟨bw, 0, none⟩) o.wr.length s0.c) := U3.cell H2.out (by simp)
      have B03F : Hid (Below W0.heap.size W0 W3) := B03H.out.trans (U3.below B03H.out.size (by simp))
      rw [← hW3]
      clear hW3 c1
      by_cases hl5 : i + 1 < o.wr.length
      · as_aux_lemma =>
        obtain ⟨z, hz⟩ := has_at zs (k := i + 1) (by omega)
        obtain ⟨u, hu1, hu2, hu3⟩ := KEY.out z hz
        have hzm : z < o.wr.length := (List.getElem?_eq_some_iff.mp hu1).1
        have hum := OW1.out u hu2
        have hlm := RD.out la LA1.out
        have zc1 : W3.cell? ⟨rb, i + 1, none⟩ = some (.int .i64 z) := U3.cell (ZC.out _ _ hz) (by simp)
        have owc : W3.cell? ⟨bw, z, none⟩ = some (.int .i64 u) := U3.cell (OWC.out _ _ hu1) (by simp)
        have cpu : W3.cell? ⟨b0, u, none⟩ = some (.int .i64 (P.idxOf u : Nat)) := (B03F.out.cell (World.block_lt_of_cell? _ _ (CP.out u hum))).trans (CP.out u hum)
        have cpl : W3.cell? ⟨b0, la, none⟩ = some (.int .i64 (P.idxOf la : Nat)) := (B03F.out.cell (World.block_lt_of_cell? _ _ (CP.out la hlm))).trans (CP.out la hlm)
        obtain ⟨pu, hpu⟩ : ∃ z, z = P.idxOf u := ⟨_, rfl⟩
        obtain ⟨pl, hpl⟩ : ∃ z, z = P.idxOf la := ⟨_, rfl⟩
        rw [← hpu] at cpu hu3
        rw [← hpl] at cpl hu3
        clear hz hu1 hu2 hpu hpl U3
        go_wp2_with fail
        refine wp_loop_once ?_
        go_upto_region 31 with fail
        go_big_quiet (fail)
        go_wp2_with fail
        refine Met.intro ?_
        have HJ5 := HJ4.out
        rw [SA.out] at HJ5
        refine HJ5 _ _ ?_
        refine EndC.of (ss.length - (k + 1)) (.int .i64 ((k : Int) + 1)) undef ?_ (by omega) ?_
        · rfl
        exact ⟨k + 1, by omega, rfl, by go_num, B03F.out.trans ((Upd.drewN [] _ _).below B03F.out.size (by simp))⟩
      · as_aux_lemma =>
        have hil : o.wr.length = i + 1 := by omega
        go_wp2_with fail
        refine wp_loop_once ?_
        go_wp2_with fail
        refine Met.intro ?_
        have HJ5 := HJ4.out
        rw [SA.out] at HJ5
        refine HJ5 _ _ ?_
        refine EndC.of (ss.length - (k + 1)) (.int .i64 ((k : Int) + 1)) undef ?_ (by omega) ?_
        · rfl
        exact ⟨k + 1, by omega, rfl, by go_num, B03F.out⟩
  · as_aux_lemma =>
    have e6 : wr.cell? ⟨d, 6, none⟩ = some (.slice none 0 0) := (BR.out.cell (by have := BB.out.size; show d < _; omega)).trans ((BB.out.cell hd).trans CC.out)
    go_wp2_with fail
    go_ret
    exact ⟨rfl, BB.out.trans (BR.out.mono BB.out.size)⟩
end Go.Proofs.YbulkctquGreatFmt

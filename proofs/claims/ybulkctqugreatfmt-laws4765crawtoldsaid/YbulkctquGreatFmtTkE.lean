/-
  takeUp in general: its second part.
-/
import Derived.Test.YbulkctquGreatFmtTkP
import Derived.Deep.RegionHeld3
namespace Go.Proofs.YbulkctquGreatFmt
open Go.ChangeShapes Go.WideShapes Go.ChangeAt Go.RowKit Go.Ord
set_option linter.unusedVariables false

/-- The rows that takeUp has sorted, of the call's own. -/
def PwR (N b3 : Nat) (P : List Nat) (x : Nat) (o : Ob) (w : World) : Prop := ∃ (rb : Nat) (zs : List Nat), N ≤ rb ∧ w.cell? ⟨b3, x, none⟩ = some (.slice (some ⟨rb, 0, none⟩) o.wr.length o.wr.length) ∧ rb ≠ b3 ∧ zs.Perm (List.range o.wr.length) ∧ (∀ i j a b : Nat, i < j → zs[i]? = some a → zs[j]? = some b → ¬ P.idxOf (o.wr.getD b 0) < P.idxOf (o.wr.getD a 0)) ∧ ∀ (j z : Nat), zs[j]? = some z → w.cell? ⟨rb, j, none⟩ = some (.int .i64 z)
theorem objs_rkAt {w : World} {g : OG} {os : List Ob} (h : Objs w g os) {x : Nat} {o : Ob} (hx : os[x]? = some o) :
    ∃ (bO : Nat) (s0 s1 s2 : SV), g.a = some ⟨bO, 0, none⟩ ∧ w.cell? ⟨bO, x * 3, none⟩ = some (.slice s0.a o.wr.length s0.c) ∧ w.cell? ⟨bO, x * 3 + 1, none⟩ = some (.slice s1.a s1.n s1.c) ∧ w.cell? ⟨bO, x * 3 + 2, none⟩ = some (.slice s2.a o.rk.length s2.c) ∧
      (∀ (j z : Nat), o.wr[j]? = some z → ∃ b, s0.a = some ⟨b, 0, none⟩ ∧ b ∈ g.foot ∧ w.cell? ⟨b, j, none⟩ = some (.int .i64 z)) ∧ (∀ (j z : Nat), o.rk[j]? = some z → ∃ b, s2.a = some ⟨b, 0, none⟩ ∧ b ∈ g.foot ∧ w.cell? ⟨b, j, none⟩ = some (.int .i64 z)) := by
  have hl := (List.getElem?_eq_some_iff.mp hx).1
  have q := fun j (hj : j < 3) => flat3 Ob.rows 3 (fun _ => rfl) os x j o hx hj
  obtain ⟨s0, f0, a0, _, a1, a2, a3⟩ := h.rows.at (i := x * 3 + 0) (r := o.wr) (by rw [q 0 (by omega)]; rfl)
  obtain ⟨s1, f1, b0, _, b1, b2, b3⟩ := h.rows.at (i := x * 3 + 1) (r := o.ini) (by rw [q 1 (by omega)]; rfl)
  obtain ⟨s2, f2, c0, _, c1, c2, c3⟩ := h.rows.at (i := x * 3 + 2) (r := o.rk) (by rw [q 2 (by omega)]; rfl)
  obtain ⟨bO, e1, e2, _, e3, _⟩ := h.top.has (by omega)
  have inF : ∀ k ∈ g.fI.flatten, k ∈ g.foot := fun k hk => by simp [OG.foot, hk]
  refine ⟨bO, s0, s1, s2, e1, ?_, ?_, ?_, fun j z hz => ?_, fun j z hz => ?_⟩
  · rw [e3 (x * 3) (by omega)]; simp at a0; simp [a0, SV.val, a1]
  · rw [e3 (x * 3 + 1) (by omega)]; simp [b0, SV.val]
  · rw [e3 (x * 3 + 2) (by omega)]; simp [c0, SV.val, c1]
  · obtain ⟨b, g1, g2, g3⟩ := a2.get (j := j) (v := nI z) (by simp [hz])
    exact ⟨b, g1, inF b (a3 b (by rw [g2]; simp)), g3⟩
  · obtain ⟨b, g1, g2, g3⟩ := c2.get (j := j) (v := nI z) (by simp [hz])
    exact ⟨b, g1, inF b (c3 b (by rw [g2]; simp)), g3⟩
def TkPost (d bN bF m : Nat) (g : GG) (G : List (List Nat)) (J : List Bool) (sg : SG) (ss : List Sr) (og : OG) (os : List Ob) (fT fR : List Nat) (cs : List Cho) (P : List Nat) (w : World) : Ending → World → Prop := fun e w' =>
  ∃ (nw : List (Nat × Nat × Nat)) (g' : GG) (v' : SV) (fT' fR' : List Nat) (vs' : List (SV × SV)), e = .returned (.bool (decide (0 < nw.length))) ∧ NwI ss os P ss.length nw ∧ g'.foot = g.foot ∧ PX d bN bF m g' G J sg ss og os v' fT' fR' (cs ++ nw.map (choOf ss)) vs' w' ∧ Upd (d :: fT) w w' ∧ (∀ x ∈ fT' ++ fR', x ∈ fT ++ fR ∨ w.heap.size ≤ x) ∧ ∀ x ∈ fT', x ∈ fT ∨ w.heap.size ≤ x
set_option maxHeartbeats 16000000 in
set_option maxRecDepth 100000 in
theorem tkg20 {u1 u2 u3 u4 u6 u7 u10 u11 u12 u13 u14 u15 u16 u17 u18 u19 u20 u21 u22 u23 u24 u25 u26 u27 u28 u29 u30 u31 u32 u33 u34 u35 u36 u37 u38 u39 u40 u41 u42 u43 u44 u45 u46 u47 u48 u49 u50 u51 u52 u53 u54 u55 u56 u57 u58 u59 u60 u61 u62 u63 u64 u65 u66 u67 u68 u69 u70 u71 u72 u73 u74 u75 u76 u77 u78 u79 u80 u81 u82 u83 u84 u85 u86 u87 u88 u89 u90 u91 u92 u93 u94 u95 u96 u97 u98 u99 u100 u101 u102 u103 u104 u105 u106 u107 u108 u109 u110 u111 u112 u113 u114 u115 u116 u117 u118 u119 u120 u121 u122 u123 u124 u125 u126 u127 u128 u129 u130 u131 u132 u133 u134 u135 u136 u137 u138 u139 u140 u141 u142 u143 u144 u145 u146 u147 u148 u149 u150 u151 u152 u153 u154 u155 u156 u157 u158 u159 u160 u161 u162 u163 u164 u165 u166 u167 u168 u169 u170 u171 u172 : Value} (w : World) (d b0 b1 b2 b3 m bN bF : Nat) (hm : m ≤ 12) (g : GG) (G : List (List Nat)) (J : List Bool) (sg : SG) (ss : List Sr) (og : OG) (os : List Ob) (v : SV) (fT fR : List Nat) (cs : List Cho) (vs : List (SV × SV)) (H : PX d bN bF m g G J sg ss og os v fT fR cs vs w)
    (P : List Nat) (nd : P.Nodup) (mem : ∀ x, x ∈ P ↔ x < m) (hos : ∀ o ∈ os, (∀ t ∈ o.wr, t < m) ∧ o.wr.Nodup ∧ o.wr.length ≤ m ∧ o.rk.length = o.wr.length) (hss : ∀ s ∈ ss, s.wr < m ∧ (∀ t ∈ s.rd, t < m) ∧ s.rd ≠ [] ∧ s.rd.length ≤ m ∧ ∃ o, os[s.ob]? = some o ∧ s.wr ∈ o.wr) (hlo : os.length < 1000) (hls : ss.length ≤ 50) (hcs : cs.length ≤ 100)
    (W0 : World) (B0 : Below w.heap.size w W0) (hb0 : w.heap.size ≤ b0) (hb1 : w.heap.size ≤ b1) (hb2 : w.heap.size ≤ b2) (hb3 : w.heap.size ≤ b3) (c1 : W0.cell? ⟨b1, 0, none⟩ = some (.slice (some ⟨b0, 0, none⟩) m m)) (cp : ∀ t, t < m → W0.cell? ⟨b0, t, none⟩ = some (.int .i64 (P.idxOf t : Nat))) (c2 : W0.cell? ⟨b2, 0, none⟩ = some (.func (.func 76) #[] #[.pointer (some ⟨b1, 0, none⟩)]))
    (rows : ∀ (x : Nat) (o : Ob), os[x]? = some o → PwR w.heap.size b3 P x o W0) :
    k20.wp Ybaz.prog (bodyPost Ybaz.prog Ybaz.f48 (TkPost d bN bF m g G J sg ss og os fT fR cs P w)) ⟨[.pointer (some ⟨d, 0, none⟩), u1, u2, u3, u4, .pointer (some ⟨b1, 0, none⟩), u6, u7, .pointer (some ⟨b2, 0, none⟩), .slice (some ⟨b3, 0, none⟩) os.length os.length, u10, u11, u12, u13, u14, u15, u16, u17, u18, u19, u20, u21, u22, u23, u24, u25, u26, u27, u28, u29, u30, u31, u32, u33, u34, u35, u36, u37, u38, u39, u40, u41, u42, u43, u44, u45, u46, u47, u48, u49, u50, u51, u52, u53, u54, u55, u56, u57, u58, u59, u60, u61, u62, u63, u64, u65, u66, u67, u68, u69, u70, u71, u72, u73, u74, u75, u76, u77, u78, u79, u80, u81, u82, u83, u84, u85, u86, u87, u88, u89, u90, u91, u92, u93, u94, u95, u96, u97, u98, u99, u100, u101, u102, u103, u104, u105, u106, u107, u108, u109, u110, u111, u112, u113, u114, u115, u116, u117, u118, u119, u120, u121, u122, u123, u124, u125, u126, u127, u128, u129, u130, u131, u132, u133, u134, u135, u136, u137, u138, u139, u140, u141, u142, u143, u144, u145, u146, u147, u148, u149, u150, u151, u152, u153, u154, u155, u156, u157, u158, u159, u160, u161, u162, u163, u164, u165, u166, u167, u168, u169, u170, u171, u172].toArray, []⟩ W0 := by
  have HX : Hid _ := H
  have ND : Hid (P.Nodup) := nd
  have MEM : Hid (∀ x, x ∈ P ↔ x < m) := mem
  have HOS : Hid (∀ o ∈ os, (∀ t ∈ o.wr, t < m) ∧ o.wr.Nodup ∧ o.wr.length ≤ m ∧ o.rk.length = o.wr.length) := hos
  have HSS : Hid (∀ s ∈ ss, s.wr < m ∧ (∀ t ∈ s.rd, t < m) ∧ s.rd ≠ [] ∧ s.rd.length ≤ m ∧ ∃ o, os[s.ob]? = some o ∧ s.wr ∈ o.wr) := hss
  have BB : Hid (Below w.heap.size w W0) := B0
  have C1 : Hid (W0.cell? ⟨b1, 0, none⟩ = some (.slice (some ⟨b0, 0, none⟩) m m)) := c1
  have C2 : Hid (W0.cell? ⟨b2, 0, none⟩ = some (.func (.func 76) #[] #[.pointer (some ⟨b1, 0, none⟩)])) := c2
  have CP : Hid (∀ t, t < m → W0.cell? ⟨b0, t, none⟩ = some (.int .i64 (P.idxOf t : Nat))) := cp
  have ROWS : Hid (∀ (x : Nat) (o : Ob), os[x]? = some o → PwR w.heap.size b3 P x o W0) := rows
  have U0 : Upd [] w W0 := ⟨B0.os, B0.tape, B0.output, B0.size, fun k hk _ => B0.block k hk⟩
  have U0H : Hid (Upd [] w W0) := U0
  have P0 := H.grow U0
  have P0H : Hid _ := P0
  have hd : d < w.heap.size := H.gr.lt
  have NB : Hid (∀ b, w.heap.size ≤ b → b ∉ d :: fT) := fun b hb hm => by
    simp only [List.mem_cons] at hm
    rcases hm with hm | hm
    · omega
    · have := HX.out.lt b (by simp [hm]); omega
  have e6 := (P0.cell (j := 6) rfl).1
  have e4 := (P0.cell (j := 4) rfl).1
  have hvn := H.ch.n
  have HVN : Hid (v.n = cs.length) := hvn
  rw [hvn] at e6
  clear H nd mem hos hss B0 c1 c2 cp rows U0 P0 hvn
  conv => arg 2; whnf
  go_wp2_with fail
  clear e6 e4
  refine wp_loopC [none, none, none, none, none, none, none, none, none, none, none, none, none, none, some none, some none, some none, some none, some none, some none, some none, none, some none, none, none, none, none, none, none, none, none, none, none, none, none, none, none, none, none, none, none, none, none, none, none, none, none, none, none, none, none, none, none, none, none, none, none, none, none, none, none, none, none, none, none, none, none, none, none, none, none, none, none, none, none, none, none, none, none, none, none, none, none, none, none, none, none, none, none, none, none, none, none, none, none, none, some (some false), some none, some none, some none, some none, some none, some none, some none, some none, some none, some none, some none, some none, some none, some none, some none, some none, some none, some none, some none, some none, some none, some none, some none, some none, some none, some none, some none, some none, some none, some none, some none, some none, some none, some none, some none, some none, some none, some none, some none, some none, some none, some none, some none, some none, some none, some none, some none, some none, some none, some none, some none, some none, some none, some none, some none, some none, some none, some none, some none, some none, some none, some none, some none, some none, some none, some none, some none, some none, some none, none, none, none, none, none, none, none] (fun n4 t96 _ wr => ∃ (k : Nat) (g1 : GG) (v1 : SV) (fT1 fR1 : List Nat) (vs1 : List (SV × SV)) (nw : List (Nat × Nat × Nat)), k ≤ ss.length ∧ n4 = ss.length - k ∧ t96 = .int .i64 k ∧ g1.foot = g.foot ∧ PX d bN bF m g1 G J sg ss og os v1 fT1 fR1 (cs ++ nw.map (choOf ss)) vs1 wr ∧ Upd (d :: fT) W0 wr ∧ (∀ x ∈ fT1 ++ fR1, x ∈ fT ++ fR ∨ W0.heap.size ≤ x) ∧ (∀ x ∈ fT1, x ∈ fT ∨ W0.heap.size ≤ x) ∧ NwI ss os P k nw ∧ nw.length ≤ k * 12) ss.length (.int .i64 0) undef rfl ⟨0, g, v, fT, fR, vs, [], by omega, by omega, rfl, rfl, by simpa using P0H.out, Upd.refl _ _, fun x hx => .inl hx, fun x hx => .inl hx, NwI.start _ _ _, by simp⟩ ?_
  intro n4 u4 x4 y4 wr J4 K4 hrel hJ4 hK4
  obtain ⟨k, g1, v1, fT1, fR1, vs1, nw, hk1, rfl, rfl, h1, h2, h3, h4, h7, h5, h6⟩ := hrel
  have HJ4 : Hid _ := hJ4
  have GF : Hid (g1.foot = g.foot) := h1
  have PR : Hid _ := h2
  have UR : Hid (Upd (d :: fT) W0 wr) := h3
  have FR1 : Hid (∀ x ∈ fT1 ++ fR1, x ∈ fT ++ fR ∨ W0.heap.size ≤ x) := h4
  have NW : Hid _ := h5
  have FT1 : Hid (∀ x ∈ fT1, x ∈ fT ∨ W0.heap.size ≤ x) := h7
  have NL : Hid (nw.length ≤ k * 12) := h6
  clear hJ4 h1 h2 h3 h4 h5 h6 h7
  dsimp only [fillC, Nat.reduceAdd]
  by_cases hltk : k < ss.length
  · as_aux_lemma =>
    obtain ⟨s, hs⟩ := has_at ss hltk
    obtain ⟨hw1, hw2, hw3, hw4, o, ho, hw5⟩ := HSS.out s (List.mem_of_getElem? hs)
    have SK : Hid (ss[k]? = some s) := hs
    have OK : Hid (os[s.ob]? = some o) := ho
    have WO : Hid (s.wr ∈ o.wr) := hw5
    have RD : Hid (∀ t ∈ s.rd, t < m) := hw2
    have RN : Hid (s.rd ≠ []) := hw3
    have hol : s.ob < os.length := (List.getElem?_eq_some_iff.mp ho).1
    obtain ⟨ho1, ho2, ho3, ho4⟩ := HOS.out o (List.mem_of_getElem? ho)
    have OW1 : Hid (∀ t ∈ o.wr, t < m) := ho1
    have OND : Hid (o.wr.Nodup) := ho2
    have ORK : Hid (o.rk.length = o.wr.length) := ho4
    obtain ⟨bS, ⟨ra, rn, rc⟩, fS, q1, q2, q3, q4, q5, q6, q7, q8, q9⟩ := PR.out.sr.at hs
    simp only at q5 q6 q7
    subst q6
    obtain ⟨bO, ⟨wa, wn, wc⟩, s1, ⟨ka, kn, kc⟩, p1, p2, p3, p4, p5, p6⟩ := objs_rkAt PR.out.ob ho
    simp only at p2 p4 p5 p6
    have eR : ∃ bR, ra = some ⟨bR, 0, none⟩ ∧ ∀ (j z : Nat), s.rd[j]? = some z → wr.cell? ⟨bR, j, none⟩ = some (.int .i64 z) := by
      have h0 : 0 < s.rd.length := by cases h : s.rd with | nil => exact absurd h hw3 | cons a r => simp
      obtain ⟨z0, hz0⟩ := has_at s.rd h0
      obtain ⟨bR, g1, _, _⟩ := q7.get (j := 0) (v := nI z0) (by simp [hz0])
      refine ⟨bR, g1, fun j z hz => ?_⟩
      obtain ⟨bR', g2, _, g3⟩ := q7.get (j := j) (v := nI z) (by simp [hz])
      rw [g1] at g2; injection g2 with g2; injection g2 with g2; subst g2
      exact g3
    obtain ⟨bR, eR1, eR2⟩ := eR
    subst eR1
    have RC : Hid (∀ (j z : Nat), s.rd[j]? = some z → wr.cell? ⟨bR, j, none⟩ = some (.int .i64 z)) := eR2
    have eW : ∃ bw bk, wa = some ⟨bw, 0, none⟩ ∧ ka = some ⟨bk, 0, none⟩ ∧ bw ∈ og.foot ∧ bk ∈ og.foot := by
      obtain ⟨j0, hj0⟩ := List.getElem?_of_mem hw5
      have hj0l := (List.getElem?_eq_some_iff.mp hj0).1
      obtain ⟨bw, g1, g2, _⟩ := p5 j0 _ hj0
      obtain ⟨r0, hr0⟩ := has_at o.rk (k := j0) (by omega)
      obtain ⟨bk, g3, g4, _⟩ := p6 j0 _ hr0
      exact ⟨bw, bk, g1, g3, g2, g4⟩
    obtain ⟨bw, bk, eW1, eW2, eW3, eW4⟩ := eW
    subst eW1 eW2
    have WM : Hid (bw ∈ og.foot ∧ bk ∈ og.foot) := ⟨eW3, eW4⟩
    have WCR : Hid (∀ (j z : Nat), o.wr[j]? = some z → wr.cell? ⟨bw, j, none⟩ = some (.int .i64 z)) := fun j z hz => by
      obtain ⟨b, g1, _, g3⟩ := p5 j z hz
      injection g1 with g1; injection g1 with g1; subst g1
      exact g3
    have KCR : Hid (∀ (j z : Nat), o.rk[j]? = some z → wr.cell? ⟨bk, j, none⟩ = some (.int .i64 z)) := fun j z hz => by
      obtain ⟨b, g1, _, g3⟩ := p6 j z hz
      injection g1 with g1; injection g1 with g1; subst g1
      exact g3
    have NO : Hid (∀ b ∈ og.foot, b ∉ d :: fT1) := fun b hb hm => by
      simp only [List.mem_cons] at hm
      have nd := PR.out.nd
      simp only [polyFp, List.nodup_cons, List.mem_append, not_or] at nd
      rcases hm with hm | hm
      · subst hm; exact nd.1.2.2 hb
      · exact PR.out.ap b (by simp [hm]) (by simp [polyFp, hb])
    have x0 := q2
    have x1 := q3
    have x2 := q4
    have x3 := q5
    have P2 : Hid (wr.cell? ⟨bO, s.ob * 3, none⟩ = some (.slice (some ⟨bw, 0, none⟩) o.wr.length wc)) := p2
    have P3 : Hid (wr.cell? ⟨bO, s.ob * 3 + 1, none⟩ = some (.slice s1.a s1.n s1.c)) := p3
    have P4 : Hid (wr.cell? ⟨bO, s.ob * 3 + 2, none⟩ = some (.slice (some ⟨bk, 0, none⟩) o.rk.length kc)) := p4
    have OA : Hid (og.a = some ⟨bO, 0, none⟩) := p1
    have SA : Hid (sg.a = some ⟨bS, 0, none⟩) := q1
    have SZ0 : Hid (W0.heap.size ≤ wr.heap.size) := UR.out.size
    rw [q1]
    clear hs hw2 hw3 ho hw5 ho1 ho2 ho4 q1 q2 q3 q4 q5 q7 q8 q9 p1 p2 p3 p4 p5 p6 eR2 eW3 eW4
    go_upto_region 24 with fail
    obtain ⟨bQ, hbQ⟩ : ∃ z, z = wr.heap.size := ⟨_, rfl⟩
    obtain ⟨W1, hW1⟩ : ∃ z : World, z = wr.alloc (.cells #[.int .i64 s.ob, .int .i64 s.wr, .int .i64 s.rk, .slice (some ⟨bR, 0, none⟩) s.rd.length rc] 142) := ⟨_, rfl⟩
    have bQ7 : Blk W1 bQ 142 #[.int .i64 s.ob, .int .i64 s.wr, .int .i64 s.rk, .slice (some ⟨bR, 0, none⟩) s.rd.length rc] := by rw [hW1, hbQ]; exact Blk.new _ _ _
    have U1 : Upd [] wr W1 := by rw [hW1]; exact Upd.alloc _ _ _
    rw [← hW1, ← hbQ]
    have HBQ : Hid (bQ = wr.heap.size) := hbQ
    clear hW1 x0 x1 x2 x3
    have U1H : Hid (Upd [] wr W1) := U1
    have BQH : Hid (Blk W1 bQ 142 #[.int .i64 s.ob, .int .i64 s.wr, .int .i64 s.rk, .slice (some ⟨bR, 0, none⟩) s.rd.length rc]) := bQ7
    have y3 : W1.cell? ⟨bQ, 3, none⟩ = some (.slice (some ⟨bR, 0, none⟩) s.rd.length rc) := bQ7.cell 3
    have O1 : ∀ {b j : Nat} {x : Value}, w.heap.size ≤ b → W0.cell? ⟨b, j, none⟩ = some x → W1.cell? ⟨b, j, none⟩ = some x := fun {b j x} hb hx => U1.cell (UR.out.cell hx (NB.out b hb)) (by simp)
    have f2 : W1.cell? ⟨b2, 0, none⟩ = some (.func (.func 76) #[] #[.pointer (some ⟨b1, 0, none⟩)]) := O1 hb2 C2.out
    have KM : Hid _ := max78 W1 bR rc s.rd RN.out (by omega) (fun t => P.idxOf t) #[.pointer (some ⟨b1, 0, none⟩)] (fun j z hz => U1.cell (RC.out j z hz) (by simp)) (fun q x y hx hy => byPos76 (W1.drewN q) b1 b0 m m x y (P.idxOf x) (P.idxOf y) (by omega) (RD.out x hx) (RD.out y hy) (O1 hb1 C1.out) (O1 hb0 (CP.out x (RD.out x hx))) (O1 hb0 (CP.out y (RD.out y hy))))
    clear bQ7 U1 hbQ O1
    go_wp2_with fail
    refine Calls.mono KM.out ?_
    rintro e' w' ⟨la, hla1, hla2, rfl, qq, rfl⟩
    have LA1 : Hid (la ∈ s.rd) := hla1
    have LA2 : Hid (∀ y ∈ s.rd, P.idxOf y ≤ P.idxOf la) := hla2
    clear hla1 hla2 KM y3 f2
    go_upto_region 25 with fail
    obtain ⟨W2, hW2⟩ : ∃ z : World, z = W1.drewN qq := ⟨_, rfl⟩
    have U2 : Upd [] wr W2 := by rw [hW2]; exact U1H.out.trans (Upd.drewN [] _ _) (by simp)
    have BQ2 : Hid (Blk W2 bQ 142 #[.int .i64 s.ob, .int .i64 s.wr, .int .i64 s.rk, .slice (some ⟨bR, 0, none⟩) s.rd.length rc]) := by
      rw [hW2]; exact Blk.keep BQH.out (Upd.drewN [] _ _) (by simp)
    rw [← hW2]
    clear hW2 U1H BQH
    have U2H : Hid (Upd [] wr W2) := U2
    have y0 : W2.cell? ⟨bQ, 0, none⟩ = some (.int .i64 s.ob) := Blk.cell BQ2.out 0
    have d5 : W2.cell? ⟨d, 5, none⟩ = some (.slice (some ⟨bO, 0, none⟩) os.length og.c) := by
      have := (PR.out.cell (j := 5) rfl).1
      rw [OA.out] at this
      exact U2.cell this (by simp)
    have g0 : W2.cell? ⟨bO, s.ob * 3, none⟩ = some (.slice (some ⟨bw, 0, none⟩) o.wr.length wc) := U2.cell P2.out (by simp)
    have g1' : W2.cell? ⟨bO, s.ob * 3 + 1, none⟩ = some (.slice s1.a s1.n s1.c) := U2.cell P3.out (by simp)
    have g2 : W2.cell? ⟨bO, s.ob * 3 + 2, none⟩ = some (.slice (some ⟨bk, 0, none⟩) o.rk.length kc) := U2.cell P4.out (by simp)
    have ya : ∀ o', (W2.alloc o').cell? ⟨bQ, 0, none⟩ = some (.int .i64 s.ob) := fun o' => (Upd.alloc [] W2 o').cell y0 (by simp)
    have da : ∀ o', (W2.alloc o').cell? ⟨d, 5, none⟩ = some (.slice (some ⟨bO, 0, none⟩) os.length og.c) := fun o' => (Upd.alloc [] W2 o').cell d5 (by simp)
    have ga0 : ∀ o', (W2.alloc o').cell? ⟨bO, s.ob * 3, none⟩ = some (.slice (some ⟨bw, 0, none⟩) o.wr.length wc) := fun o' => (Upd.alloc [] W2 o').cell g0 (by simp)
    have ga1 : ∀ o', (W2.alloc o').cell? ⟨bO, s.ob * 3 + 1, none⟩ = some (.slice s1.a s1.n s1.c) := fun o' => (Upd.alloc [] W2 o').cell g1' (by simp)
    have ga2 : ∀ o', (W2.alloc o').cell? ⟨bO, s.ob * 3 + 2, none⟩ = some (.slice (some ⟨bk, 0, none⟩) o.rk.length kc) := fun o' => (Upd.alloc [] W2 o').cell g2 (by simp)
    refine wp_cutC [none, none, none, none, none, none, none, none, none, none, none, none, none, none, none, none, none, some (some false), none, none, none, none, none, none, none, none, none, none, none, none, none, none, none, none, none, none, none, none, none, none, none, none, none, none, none, none, none, none, none, none, none, none, none, none, none, none, none, none, none, none, none, none, none, none, none, none, none, none, none, none, none, none, none, none, none, none, none, none, none, none, none, none, none, none, none, none, none, none, none, none, none, none, none, none, none, none, none, none, none, none, none, none, none, none, none, some none, some none, some none, some none, some none, some none, some none, some none, none, none, none, none, none, none, none, none, none, none, none, none, none, none, none, none, none, none, none, none, none, none, none, none, none, none, none, none, none, none, none, none, none, none, none, none, none, none, none, none, none, none, none, none, none, none, none, none, none, none, none, none, none, none, none, none, none, none, none, none] (fun t17 _ wd => ∃ bq : Nat, t17 = .pointer (some ⟨bq, 0, none⟩) ∧ Upd [] W2 wd ∧ W2.heap.size ≤ bq ∧ Blk wd bq 139 #[.slice (some ⟨bw, 0, none⟩) o.wr.length wc, .slice s1.a s1.n s1.c, .slice (some ⟨bk, 0, none⟩) o.rk.length kc]) ?_ ?_
    · as_aux_lemma =>
      intro J8 K8 hJ8 hK8
      have HJ8 : Hid _ := hJ8
      clear hJ8
      go_big_region
      go_wp2_with fail
      refine Met.intro ?_
      refine HJ8.out _ _ ?_
      refine MeetC.of (.pointer (some ⟨W2.heap.size, 0, none⟩)) undef ?_ ?_
      · rfl
      refine ⟨W2.heap.size, rfl, ?_, Nat.le_refl _, ?_⟩
      · exact (Upd.alloc [] W2 _).trans (Upd.drew [] _) (by simp)
      · exact Blk.keep (Blk.new W2 _ _) (Upd.drew [] _) (by simp)
    · as_aux_lemma =>
      intro uc xc yc wd hcut
      obtain ⟨bq, rfl, h1, hbq, h2⟩ := hcut
      dsimp only [fillC, Nat.reduceAdd]
      have UD : Upd [] wr wd := U2.trans h1 (by simp)
      have PD := PR.out.grow UD
      have O1 : ∀ {b j : Nat} {x : Value}, w.heap.size ≤ b → W0.cell? ⟨b, j, none⟩ = some x → wd.cell? ⟨b, j, none⟩ = some x := fun {b j x} hb hx => UD.cell (UR.out.cell hx (NB.out b hb)) (by simp)
      have y0 : wd.cell? ⟨bQ, 0, none⟩ = some (.int .i64 s.ob) := h1.cell (Blk.cell BQ2.out 0) (by simp)
      have y1 : wd.cell? ⟨bQ, 1, none⟩ = some (.int .i64 s.wr) := h1.cell (Blk.cell BQ2.out 1) (by simp)
      have c1 : wd.cell? ⟨b1, 0, none⟩ = some (.slice (some ⟨b0, 0, none⟩) m m) := O1 hb1 C1.out
      have cs' : wd.cell? ⟨b0, s.wr, none⟩ = some (.int .i64 (P.idxOf s.wr : Nat)) := O1 hb0 (CP.out s.wr hw1)
      obtain ⟨rb, zs, r0, r1, r2, r3, r4, r5⟩ := ROWS.out s.ob o OK.out
      have rc' : wd.cell? ⟨b3, s.ob, none⟩ = some (.slice (some ⟨rb, 0, none⟩) o.wr.length o.wr.length) := O1 hb3 r1
      have zc : ∀ (j z : Nat), zs[j]? = some z → wd.cell? ⟨rb, j, none⟩ = some (.int .i64 z) := fun j z hz => O1 r0 (r5 j z hz)
      have hq0 : wd.cell? ⟨bq, 0, none⟩ = some (.slice (some ⟨bw, 0, none⟩) o.wr.length wc) := h2.cell 0
      have ow : ∀ (j z : Nat), o.wr[j]? = some z → wd.cell? ⟨bw, j, none⟩ = some (.int .i64 z) := fun j z hz => by
        obtain ⟨bO', s0', s1', s2', p1, p2, p3, p4, p5, p6⟩ := objs_rkAt PD.ob OK.out
        rw [OA.out] at p1; injection p1 with p1; injection p1 with p1; subst p1
        have e9 := UD.cell P2.out (by simp)
        rw [p2] at e9; injection e9 with e9; injection e9 with e9
        obtain ⟨b, g1, _, g3⟩ := p5 j z hz
        rw [e9] at g1; injection g1 with g1; injection g1 with g1; subst g1
        exact g3
      have zl : zs.length = o.wr.length := by have := r3.length_eq; simpa using this
      have zm : ∀ z ∈ zs, z < o.wr.length := fun z hz => by have := r3.mem_iff.mp hz; simpa using this
      have KB := bin79 wd rb o.wr.length zs (by omega) (fun i => P.idxOf (o.wr.getD i 0)) (P.idxOf s.wr) #[.pointer (some ⟨b1, 0, none⟩), .pointer (some ⟨bq, 0, none⟩)] zc r4 (fun q z hz => by
        obtain ⟨t, ht⟩ := has_at o.wr (zm z hz)
        have hg : o.wr.getD z 0 = t := by simp [ht]
        have htm := OW1.out t (List.mem_of_getElem? ht)
        have := cmp80 (wd.drewN q) b1 b0 m m (by omega) c1 bq bw o.wr.length wc (by omega) hq0 z t (P.idxOf t) (P.idxOf s.wr) (zm z hz) htm (ow z t ht) (O1 hb0 (CP.out t htm))
        simp only [hg]
        exact this)
      rw [zl] at KB
      have KBH : Hid _ := KB
      have R0 : Hid (w.heap.size ≤ rb) := r0
      have R5 : Hid (∀ (j z : Nat), zs[j]? = some z → W0.cell? ⟨rb, j, none⟩ = some (.int .i64 z)) := r5
      have R3 : Hid (zs.Perm (List.range o.wr.length)) := r3
      have R4 : Hid (∀ i j a b : Nat, i < j → zs[i]? = some a → zs[j]? = some b → ¬ P.idxOf (o.wr.getD b 0) < P.idxOf (o.wr.getD a 0)) := r4
      have UDH : Hid (Upd [] wr wd) := UD
      have H2 : Hid (Blk wd bq 139 #[.slice (some ⟨bw, 0, none⟩) o.wr.length wc, .slice s1.a s1.n s1.c, .slice (some ⟨bk, 0, none⟩) o.rk.length kc]) := h2
      have HBq : Hid (wr.heap.size ≤ bq) := Nat.le_trans U2H.out.size hbq
      have ZM : Hid (∀ z ∈ zs, z < o.wr.length) := zm
      clear KB zc ow r0 r1 r2 r3 r4 r5 h1 h2 zm O1 UD PD hq0 hbq
      go_wp2_with fail
      refine Calls.mono KBH.out ?_
      rintro e' w' ⟨i, ff, hi1, hi2, hi3, rfl, qq3, rfl⟩
      have I2 : Hid (∀ j z, j < i → zs[j]? = some z → P.idxOf (o.wr.getD z 0) < P.idxOf s.wr) := hi2
      have I3 : Hid (∀ j z, i ≤ j → zs[j]? = some z → P.idxOf s.wr ≤ P.idxOf (o.wr.getD z 0)) := hi3
      have hin : i < o.wr.length := by
        obtain ⟨z0, hz0⟩ := List.getElem?_of_mem WO.out
        have hzl := (List.getElem?_eq_some_iff.mp hz0).1
        obtain ⟨j0, hj0⟩ := List.getElem?_of_mem (R3.out.mem_iff.mpr (by simpa using hzl) : z0 ∈ zs)
        have hjl := (List.getElem?_eq_some_iff.mp hj0).1
        rcases Nat.lt_or_ge j0 i with h | h
        · have h2 := hi2 j0 z0 h hj0
          have hg : o.wr.getD z0 0 = s.wr := by simp [hz0]
          rw [hg] at h2; omega
        · omega
      clear hi2 hi3 KBH y0 y1 cs' rc' c1
      obtain ⟨W3, hW3⟩ : ∃ z : World, z = wd.drewN qq3 := ⟨_, rfl⟩
      have U3 : Hid (Upd [] wr W3) := by
        show Upd [] wr W3
        rw [hW3]; exact UDH.out.trans (Upd.drewN [] _ _) (by simp)
      have BQ3 : Hid (Blk W3 bq 139 #[.slice (some ⟨bw, 0, none⟩) o.wr.length wc, .slice s1.a s1.n s1.c, .slice (some ⟨bk, 0, none⟩) o.rk.length kc]) := by
        show Blk _ _ _ _
        rw [hW3]; exact Blk.keep H2.out (Upd.drewN [] _ _) (by simp)
      have P3H : Hid _ := PR.out.grow U3.out
      have UR3 : Hid (Upd (d :: fT) W0 W3) := UR.out.trans U3.out (by simp)
      rw [← hW3]
      have SZ3 : Hid (W0.heap.size ≤ W3.heap.size) := UR3.out.size
      clear hW3 UDH H2
      by_cases hl5 : i + 1 < o.wr.length
      · as_aux_lemma =>
        go_upto_region 29 with fail
        go_loopw [134] (fun t134 wx => ∃ (j : Nat) (g2 : GG) (v2 : SV) (fT2 fR2 : List Nat) (vs2 : List (SV × SV)), j ≤ o.wr.length - (i + 1) ∧ t134 = .int .i64 j ∧ g2.foot = g.foot ∧ PX d bN bF m g2 G J sg ss og os v2 fT2 fR2 (cs ++ (nw ++ ((zs.drop (i + 1)).take j).map (nwOf k o)).map (choOf ss)) vs2 wx ∧ Upd (d :: fT) W0 wx ∧ Upd (d :: fT1) W3 wx ∧ (∀ x ∈ fT2 ++ fR2, x ∈ fT1 ++ fR1 ∨ W3.heap.size ≤ x) ∧ (∀ x ∈ fT2, x ∈ fT1 ∨ W3.heap.size ≤ x) ∧ (∀ z ∈ (zs.drop (i + 1)).take j, P.idxOf (o.wr.getD z 0) < P.idxOf la) ∧ Blk wx bq 139 #[.slice (some ⟨bw, 0, none⟩) o.wr.length wc, .slice s1.a s1.n s1.c, .slice (some ⟨bk, 0, none⟩) o.rk.length kc]) (fun u _ => o.wr.length - (i + 1) - (intOf u).toNat)
        case atStart => exact ⟨0, g1, v1, fT1, fR1, vs1, by omega, rfl, GF.out, by simpa using P3H.out, UR3.out, Upd.refl _ _, fun x hx => .inl hx, fun x hx => .inl hx, by simp, BQ3.out⟩
        case round =>
          obtain ⟨j, g2, v2, fT2, fR2, vs2, hj, rfl, i1, i2, i3, i4, i5, i6, i7, i8⟩ := hrel
          have GF2 : Hid (g2.foot = g.foot) := i1
          have P2H : Hid _ := i2
          have UW0 : Hid (Upd (d :: fT) W0 wr) := i3
          have UW3 : Hid (Upd (d :: fT1) W3 wr) := i4
          have FF2 : Hid (∀ x ∈ fT2 ++ fR2, x ∈ fT1 ++ fR1 ∨ W3.heap.size ≤ x) := i5
          have FT2 : Hid (∀ x ∈ fT2, x ∈ fT1 ∨ W3.heap.size ≤ x) := i6
          have LJ : Hid (∀ z ∈ (zs.drop (i + 1)).take j, P.idxOf (o.wr.getD z 0) < P.idxOf la) := i7
          have BQ4 : Hid (Blk wr bq 139 #[.slice (some ⟨bw, 0, none⟩) o.wr.length wc, .slice s1.a s1.n s1.c, .slice (some ⟨bk, 0, none⟩) o.rk.length kc]) := i8
          clear i1 i2 i3 i4 i5 i6 i7 i8
          have FW : Hid (∀ x ∈ fT2 ++ fR2, x ∈ fT ++ fR ∨ W0.heap.size ≤ x) := fun x hx => by
            rcases FF2.out x hx with z | z
            · exact FR1.out x z
            · exact .inr (Nat.le_trans SZ3.out z)
          have FWT : Hid (∀ x ∈ fT2, x ∈ fT ∨ W0.heap.size ≤ x) := fun x hx => by
            rcases FT2.out x hx with z | z
            · exact FT1.out x z
            · exact .inr (Nat.le_trans SZ3.out z)
          by_cases hltj : j < o.wr.length - (i + 1)
          · obtain ⟨z, hz⟩ := has_at zs (k := i + 1 + j) (by omega)
            have hzm := ZM.out z (List.mem_of_getElem? hz)
            obtain ⟨u, hu⟩ := has_at o.wr hzm
            obtain ⟨r, hr⟩ := has_at o.rk (k := z) (by rw [ORK.out]; exact hzm)
            have hum := OW1.out u (List.mem_of_getElem? hu)
            have hlm := RD.out la LA1.out
            have zc1 : wr.cell? ⟨rb, i + 1 + j, none⟩ = some (.int .i64 z) := UW0.out.cell (R5.out _ _ hz) (NB.out rb R0.out)
            have c1 : wr.cell? ⟨b1, 0, none⟩ = some (.slice (some ⟨b0, 0, none⟩) m m) := UW0.out.cell C1.out (NB.out b1 hb1)
            have cpu : wr.cell? ⟨b0, u, none⟩ = some (.int .i64 (P.idxOf u : Nat)) := UW0.out.cell (CP.out u hum) (NB.out b0 hb0)
            have cpl : wr.cell? ⟨b0, la, none⟩ = some (.int .i64 (P.idxOf la : Nat)) := UW0.out.cell (CP.out la hlm) (NB.out b0 hb0)
            have owc : wr.cell? ⟨bw, z, none⟩ = some (.int .i64 u) := UW3.out.cell (U3.out.cell (WCR.out z u hu) (by simp)) (NO.out bw WM.out.1)
            have rkc : wr.cell? ⟨bk, z, none⟩ = some (.int .i64 r) := UW3.out.cell (U3.out.cell (KCR.out z r hr) (by simp)) (NO.out bk WM.out.2)
            have q0 : wr.cell? ⟨bq, 0, none⟩ = some (.slice (some ⟨bw, 0, none⟩) o.wr.length wc) := Blk.cell BQ4.out 0
            have q2 : wr.cell? ⟨bq, 2, none⟩ = some (.slice (some ⟨bk, 0, none⟩) o.rk.length kc) := Blk.cell BQ4.out 2
            have hdz : (zs.drop (i + 1))[j]? = some z := by rw [List.getElem?_drop]; exact hz
            have HDZ : Hid ((zs.drop (i + 1))[j]? = some z) := hdz
            have gu : o.wr.getD z 0 = u := by simp [hu]
            have gr : o.rk.getD z 0 = r := by simp [hr]
            have GU : Hid (o.wr.getD z 0 = u) := gu
            have GRR : Hid (o.rk.getD z 0 = r) := gr
            have hrk := ORK.out
            have hzr : z < o.rk.length := by omega
            obtain ⟨pu, hpu⟩ : ∃ z, z = P.idxOf u := ⟨_, rfl⟩
            obtain ⟨pl, hpl⟩ : ∃ z, z = P.idxOf la := ⟨_, rfl⟩
            rw [← hpu] at cpu
            rw [← hpl] at cpl
            have PU : Hid (pu = P.idxOf u) := hpu
            have PL : Hid (pl = P.idxOf la) := hpl
            clear hz hu hr hpu hpl hdz gu gr hrk
            by_cases hge : pl ≤ pu
            · as_aux_lemma =>
              have hge2 : (pl : Int) ≤ (pu : Int) := by omega
              go_upto_region 31 with fail
              go_big_quiet (fail)
              have UQ : Upd [] wr (wr.drewN nq) := Upd.drewN _ _ _
              obtain ⟨W5, hW5⟩ : ∃ z : World, z = wr.drewN nq := ⟨_, rfl⟩
              rw [← hW5] at UQ ⊢
              clear hW5 zc1 c1 cpu cpl owc rkc q0 q2
              have NWS : Hid _ := NW.out.step SK.out OK.out OND.out ORK.out WO.out (fun u hu => (MEM.out u).mpr (OW1.out u hu)) R3.out R4.out LA1.out LA2.out I2.out I3.out LJ.out (.inr ⟨z, HDZ.out, by rw [GU.out, ← PU.out, ← PL.out]; exact hge⟩)
              go_wp2_with fail
              refine Met.intro ?_
              have HJ5 := HJ4.out
              rw [SA.out] at HJ5
              refine HJ5 _ _ ?_
              refine EndC.of (ss.length - (k + 1)) (.int .i64 ((k : Int) + 1)) undef ?_ (by omega) ?_
              · rfl
              refine ⟨k + 1, g2, v2, fT2, fR2, vs2, _, by omega, rfl, by go_num, GF2.out, P2H.out.grow UQ, UW0.out.trans UQ (by simp), FW.out, FWT.out, NWS.out, ?_⟩
              have e1 := NL.out
              have e2 : (((zs.drop (i + 1)).take j).map (nwOf k o)).length ≤ 12 := by
                rw [List.length_map]
                refine Nat.le_trans (List.length_take_le _ _) ?_
                omega
              rw [List.length_append]
              omega
            · as_aux_lemma =>
              have hge2 : ¬ (pl : Int) ≤ (pu : Int) := by omega
              have EQL : (cs ++ (nw ++ ((zs.drop (i + 1)).take j).map (nwOf k o)).map (choOf ss)).length < 1000 := by
                have e1 := NL.out
                have e2 : (((zs.drop (i + 1)).take j).map (nwOf k o)).length ≤ 12 := by
                  rw [List.length_map]
                  refine Nat.le_trans (List.length_take_le _ _) ?_
                  omega
                simp only [List.length_append, List.length_map] at *
                omega
              have hcon : Hid _ := fun (W : World) (hW : Upd [] wr W) => takeUp81 (P2H.out.grow hW) k u r s SK.out (by omega) (by omega) EQL
              have NBQ : Hid (bq ∉ d :: fT2) := by
                intro hm
                simp only [List.mem_cons] at hm
                have e1 := HBq.out
                have e2 := PR.out.gr.lt
                rcases hm with hm | hm
                · omega
                · rcases FT2.out bq hm with z | z
                  · have := PR.out.lt bq (by simp [z]); omega
                  · have := Blk.lt BQ3.out; omega
              have nP : Hid (∀ b ∈ og.foot, b ∉ d :: fT2) := fun b hb hm => by
                simp only [List.mem_cons] at hm
                have nd := P2H.out.nd
                simp only [polyFp, List.nodup_cons, List.mem_append, not_or] at nd
                rcases hm with hm | hm
                · subst hm; exact nd.1.2.2 hb
                · exact P2H.out.ap b (by simp [hm]) (by simp [polyFp, hb])
              go_upto_region 31 with fail
              go_big_quiet (fail)
              have UQ : Upd [] wr (wr.drewN nq) := Upd.drewN _ _ _
              obtain ⟨W5, hW5⟩ : ∃ z : World, z = wr.drewN nq := ⟨_, rfl⟩
              rw [← hW5] at UQ ⊢
              have UQH : Hid (Upd [] wr W5) := UQ
              have q0' := UQ.cell q0 (by simp)
              have q2' := UQ.cell q2 (by simp)
              have owc' := UQ.cell owc (by simp)
              have rkc' := UQ.cell rkc (by simp)
              clear hW5 zc1 c1 cpu cpl owc rkc q0 q2 UQ EQL
              go_upto_region 32 with fail
              go_region_held3 (fun z' => z'.cell? ⟨bq, 0, none⟩ = some (.slice (some ⟨bw, 0, none⟩) o.wr.length wc) ∧ z'.cell? ⟨bq, 2, none⟩ = some (.slice (some ⟨bk, 0, none⟩) o.rk.length kc) ∧ z'.cell? ⟨bw, z, none⟩ = some (.int .i64 u) ∧ z'.cell? ⟨bk, z, none⟩ = some (.int .i64 r)) (first | exact ⟨q0', q2', owc', rkc'⟩ | exact ⟨p3.cell q0' NBQ.out, p3.cell q2' NBQ.out, p3.cell owc' (nP.out bw WM.out.1), p3.cell rkc' (nP.out bk WM.out.2)⟩) ((go_at_call 81; refine Calls.mono (hcon.out _ (UQH.out.trans (Upd.drew [] _) (by simp))) ?_; rintro e w' ⟨rfl, g3, v3, fT3, fR3, vs3, p1, p2, p3, p4, p5⟩))
              have zd : W5.drew.heap.size = W5.heap.size := rfl
              have zq := UQH.out.size
              have z3 := UW3.out.size
              have z0 := UW0.out.size
              have A1 : Hid (Upd (d :: fT) W0 w') := (UW0.out.trans (UQH.out.trans (Upd.drew [] _) (by simp)) (by simp)).trans p3 (fun x hx => by
                simp only [List.mem_cons] at hx ⊢
                rcases hx with hx | hx
                · exact .inl (.inl hx)
                · exact (FWT.out x hx).imp .inr id)
              have A2 : Hid (Upd (d :: fT1) W3 w') := (UW3.out.trans (UQH.out.trans (Upd.drew [] _) (by simp)) (by simp)).trans p3 (fun x hx => by
                simp only [List.mem_cons] at hx ⊢
                rcases hx with hx | hx
                · exact .inl (.inl hx)
                · exact (FT2.out x hx).imp .inr id)
              have A3 : Hid (∀ x ∈ fT3 ++ fR3, x ∈ fT1 ++ fR1 ∨ W3.heap.size ≤ x) := fun x hx => by
                rcases p4 x hx with z | z
                · exact FF2.out x z
                · exact .inr (by omega)
              have A4 : Hid (∀ x ∈ fT3, x ∈ fT1 ∨ W3.heap.size ≤ x) := fun x hx => by
                rcases p5 x hx with z | z
                · exact FT2.out x z
                · exact .inr (by omega)
              have A5 : Hid (Blk w' bq 139 #[.slice (some ⟨bw, 0, none⟩) o.wr.length wc, .slice s1.a s1.n s1.c, .slice (some ⟨bk, 0, none⟩) o.rk.length kc]) := Blk.keep (Blk.keep BQ4.out (UQH.out.trans (Upd.drew [] _) (by simp)) (by simp)) p3 NBQ.out
              have A6 : Hid (g3.foot = g.foot) := p1.trans GF2.out
              have A7 : Hid _ := p2
              clear p1 p2 p3 p4 p5 zd zq z3 z0 q0' q2' owc' rkc' hcon
              go_wp2_with fail
              have TK1 : (zs.drop (i + 1)).take (j + 1) = (zs.drop (i + 1)).take j ++ [z] := by rw [List.take_add_one, HDZ.out]; rfl
              refine ⟨⟨j + 1, g3, v3, fT3, fR3, vs3, by omega, by go_num, A6.out, ?_, A1.out, A2.out, A3.out, A4.out, ?_, A5.out⟩, by simp [intOf] <;> omega⟩
              · have e1 : choOf ss (nwOf k o z) = mkCho s u r := by simp only [choOf, nwOf, SK.out, GU.out, GRR.out]
                have e2 : cs ++ (nw ++ ((zs.drop (i + 1)).take (j + 1)).map (nwOf k o)).map (choOf ss) = cs ++ (nw ++ ((zs.drop (i + 1)).take j).map (nwOf k o)).map (choOf ss) ++ [mkCho s u r] := by
                  rw [TK1, ← e1]
                  simp
                rw [e2]
                exact A7.out
              · intro z' hz'
                rw [TK1] at hz'
                rcases List.mem_append.mp hz' with h | h
                · exact LJ.out z' h
                · simp at h
                  subst h
                  rw [GU.out, ← PU.out, ← PL.out]; omega
          · as_aux_lemma =>
            have NWS : Hid _ := NW.out.step SK.out OK.out OND.out ORK.out WO.out (fun u hu => (MEM.out u).mpr (OW1.out u hu)) R3.out R4.out LA1.out LA2.out I2.out I3.out LJ.out (.inl (by simp; omega))
            go_wp2_with fail
            refine Met.intro ?_
            have HJ5 := HJ4.out
            rw [SA.out] at HJ5
            refine HJ5 _ _ ?_
            refine EndC.of (ss.length - (k + 1)) (.int .i64 ((k : Int) + 1)) undef ?_ (by omega) ?_
            · rfl
            refine ⟨k + 1, g2, v2, fT2, fR2, vs2, _, by omega, rfl, by go_num, GF2.out, P2H.out, UW0.out, FW.out, FWT.out, NWS.out, ?_⟩
            have e1 := NL.out
            have e2 : (((zs.drop (i + 1)).take j).map (nwOf k o)).length ≤ 12 := by
              rw [List.length_map]
              refine Nat.le_trans (List.length_take_le _ _) ?_
              omega
            rw [List.length_append]
            omega
      · as_aux_lemma =>
        have hil : o.wr.length = i + 1 := by omega
        have hdn : zs.drop (i + 1) = [] := List.drop_of_length_le (by omega)
        have NWS : Hid (NwI ss os P (k + 1) nw) := by
          have := NW.out.step (j := 0) (i := i) (zs := zs) SK.out OK.out OND.out ORK.out WO.out (fun u hu => (MEM.out u).mpr (OW1.out u hu)) R3.out R4.out LA1.out LA2.out I2.out I3.out (by simp) (.inl (by rw [hdn]; simp))
          show NwI ss os P (k + 1) nw
          simpa using this
        go_wp2_with fail
        refine wp_loop_once ?_
        go_wp2_with fail
        refine Met.intro ?_
        have HJ5 := HJ4.out
        rw [SA.out] at HJ5
        refine HJ5 _ _ ?_
        refine EndC.of (ss.length - (k + 1)) (.int .i64 ((k : Int) + 1)) undef ?_ (by omega) ?_
        · rfl
        exact ⟨k + 1, g1, v1, fT1, fR1, vs1, nw, by omega, rfl, by go_num, GF.out, P3H.out, UR3.out, FR1.out, FT1.out, NWS.out, by have := NL.out; omega⟩
  · as_aux_lemma =>
    have e6 := (PR.out.cell (j := 6) rfl).1
    have hvn := PR.out.ch.n
    have hlen : (cs ++ nw.map (choOf ss)).length = cs.length + nw.length := by simp
    rw [hlen] at hvn
    rw [hvn] at e6
    have hk9 : k = ss.length := by omega
    have NL9 := NL.out
    have NW9 : Hid (NwI ss os P ss.length nw) := by
      have := NW.out
      rw [hk9] at this
      exact this
    obtain ⟨nl, hnl⟩ : ∃ n, n = nw.length := ⟨_, rfl⟩
    rw [← hnl] at e6 NL9
    have HNL : Hid (nl = nw.length) := hnl
    have UF : Hid (Upd (d :: fT) w wr) := (U0H.out.mono (by simp)).trans UR.out (fun x hx => .inl hx)
    have FF : Hid (∀ x ∈ fT1 ++ fR1, x ∈ fT ++ fR ∨ w.heap.size ≤ x) := fun x hx => (FR1.out x hx).imp id (fun z => Nat.le_trans U0H.out.size z)
    have hcl9 : cs.length + nl < 100000 := by omega
    clear hvn hlen hnl NL9 hk9
    by_cases hn0 : 0 < nl
    · have hgt : (cs.length : Int) < (cs.length : Int) + (nl : Int) := by omega
      go_wp2_with fail
      go_ret
      refine ⟨nw, g1, v1, fT1, fR1, vs1, ?_, NW9.out, GF.out, PR.out, UF.out, FF.out, fun x hx => (FT1.out x hx).imp id (fun z => Nat.le_trans U0H.out.size z)⟩
      rw [← HNL.out]
      simp [hn0]
    · have hn1 : nl = 0 := by omega
      subst hn1
      have hgt : ¬ (cs.length : Int) < (cs.length : Int) := by omega
      simp only [Nat.add_zero] at e6
      go_wp2_with fail
      go_ret
      refine ⟨nw, g1, v1, fT1, fR1, vs1, ?_, NW9.out, GF.out, PR.out, UF.out, FF.out, fun x hx => (FT1.out x hx).imp id (fun z => Nat.le_trans U0H.out.size z)⟩
      rw [← HNL.out]
      simp
end Go.Proofs.YbulkctquGreatFmt

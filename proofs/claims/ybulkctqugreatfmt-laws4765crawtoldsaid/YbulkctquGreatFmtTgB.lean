/-
  tangle: pick, unpick.
-/
import Derived.Test.YbulkctquGreatFmtTgA
import Derived.Deep.RegionHeld3
import Derived.BigQuiet
namespace Go.Proofs.YbulkctquGreatFmt
open Go.ChangeShapes Go.WideShapes Go.ChangeAt Go.RowKit Go.Ord
set_option linter.unusedVariables false
attribute [local go_sem ↓] Go.wp_at_zero Go.wp_at_succ

theorem TG.lens {d bW cW bC cC bE : Nat} {fV : List Nat} {g : GG} {G : List (List Nat)} {J : List Bool} {ws : List (Alt × Alt)} {ch se : List Int} {st : Int} {w : World} (h : TG d bW cW bC cC bE fV g G J ws ch se st w) : ch.length = ws.length ∧ se.length = G.length ∧ ws.length ≤ cC ∧ cC ≤ 9223372036854775807 := by
  have h1 := h.sc.len
  have h2 := h.sn.len
  exact ⟨by simpa using h1, by simpa using h2, h.sc.le.1, h.sc.le.2⟩
theorem TG.gch {d bW cW bC cC bE : Nat} {fV : List Nat} {g : GG} {G : List (List Nat)} {J : List Bool} {ws : List (Alt × Alt)} {ch se : List Int} {st : Int} {w : World} (h : TG d bW cW bC cC bE fV g G J ws ch se st w) {c : Nat} {z : Int} (hc : ch[c]? = some z) : w.cell? ⟨bC, c, none⟩ = some (.int .i64 z) ∧ w.frozen? ⟨bC, c, none⟩ = false := by
  have hl := (List.getElem?_eq_some_iff.mp hc).1
  obtain ⟨g', e, _, _, cc, zz⟩ := h.sc.has (by have := h.lens.1; omega)
  injection e with e
  injection e with e
  subst e
  exact ⟨by rw [cc c (by have := h.lens.1; omega)]; simp [hc, iI], zz c⟩
theorem TG.gse {d bW cW bC cC bE : Nat} {fV : List Nat} {g : GG} {G : List (List Nat)} {J : List Bool} {ws : List (Alt × Alt)} {ch se : List Int} {st : Int} {w : World} (h : TG d bW cW bC cC bE fV g G J ws ch se st w) {c : Nat} {z : Int} (hc : se[c]? = some z) : w.cell? ⟨bE, c, none⟩ = some (.int .i64 z) ∧ w.frozen? ⟨bE, c, none⟩ = false := by
  have hl := (List.getElem?_eq_some_iff.mp hc).1
  obtain ⟨g', e, _, _, cc, zz⟩ := h.sn.has (by have := h.lens.2.1; omega)
  injection e with e
  injection e with e
  subst e
  exact ⟨by rw [cc c (by have := h.lens.2.1; omega)]; simp [hc, iI], zz c⟩
theorem wt_to (u : Nat) : ∀ (ts : List Nat) (G : List (List Nat)), wt (arcsTo G ts u) ≤ wt G + ts.length := fun ts G => arcsTo_wt u ts G

set_option maxHeartbeats 4000000 in
set_option maxRecDepth 100000 in
theorem pick114 {d bW cW bC cC bE : Nat} {fV : List Nat} {g : GG} {G : List (List Nat)} {J : List Bool} {ws : List (Alt × Alt)} {ch se : List Int} {st : Int} {w : World} (H : TG d bW cW bC cC bE fV g G J ws ch se st w)
    (c v : Nat) (hc : c < ws.length) (hv : v ≤ 1) (hw : ∀ t ∈ (altOf ws c v).f, t < G.length) (hwt : wt G < 1000000) (hfl : (altOf ws c v).f.length ≤ 100) (hwl : ws.length ≤ 100) :
    Calls Ybaz.prog 114 #[.pointer (some ⟨d, 0, none⟩), .int .i64 c, .int .i64 v] w fun e w' => e = .returned (.tuple #[]) ∧
      ∃ g', TG d bW cW bC cC bE fV g' (pickG G (altOf ws c v)) J ws (ch.set c (v : Int)) se st w' ∧ Upd (tanFp d g bC bE) w w' ∧ ∀ k ∈ tanFp d g' bC bE, k ∈ tanFp d g bC bE ∨ w.heap.size ≤ k := by
  obtain ⟨⟨sa, sn, sc⟩, k1, k2, k3⟩ := H.wv.at hc hv
  simp only at k1
  have e2 := (H.cell (j := 2) rfl).1
  have HH : Hid _ := H
  have HW : Hid (∀ t ∈ (altOf ws c v).f, t < G.length) := hw
  have K3 : Hid _ := k3
  obtain ⟨f, hf⟩ : ∃ f, f = (altOf ws c v).f := ⟨_, rfl⟩
  obtain ⟨i0, hi0⟩ : ∃ i, i = (altOf ws c v).i := ⟨_, rfl⟩
  have hsn : sn = f.length := by rw [hf]; exact k3.1
  subst hsn
  rw [← hi0] at k2
  rw [← hf] at hfl
  have FF : Hid (f = (altOf ws c v).f) := hf
  have II : Hid (i0 = (altOf ws c v).i) := hi0
  clear H hw k3 hf hi0
  go_enter Ybaz.func114, Ybaz.ntmps114
  go_upto_region 1 with fail
  obtain ⟨W0, hW0⟩ : ∃ z : World, z = w.alloc (.cells #[.slice sa f.length sc, .int .i64 i0] 161) := ⟨_, rfl⟩
  have B0 : Blk W0 w.heap.size 161 #[.slice sa f.length sc, .int .i64 i0] := by rw [hW0]; exact Blk.new _ _ _
  have U0 : Upd [] w W0 := by rw [hW0]; exact Upd.alloc _ _ _
  rw [← hW0]
  have T0 : Hid _ := HH.out.grow U0
  have BB : Hid (Blk W0 w.heap.size 161 #[.slice sa f.length sc, .int .i64 i0]) := B0
  have U00 : Hid (Upd (tanFp d g bC bE) w W0) := U0.mono (by simp)
  have c0 := B0.cell 0
  have hlw : w.heap.size < W0.heap.size := B0.lt
  clear hW0 B0 U0 k1 k2 e2
  go_wp2_with fail
  clear c0
  go_loopw [21] (fun t21 wr => ∃ (i : Nat) (g' : GG), i ≤ f.length ∧ t21 = .int .i64 i ∧ TG d bW cW bC cC bE fV g' (arcsTo G (f.take i) i0) J ws ch se st wr ∧ Upd (tanFp d g bC bE) w wr ∧ (∀ k ∈ tanFp d g' bC bE, k ∈ tanFp d g bC bE ∨ W0.heap.size ≤ k) ∧ W0.heap.size ≤ wr.heap.size ∧ Blk wr w.heap.size 161 #[.slice sa f.length sc, .int .i64 i0]) (fun u _ => f.length - (intOf u).toNat)
  case atStart => exact ⟨0, g, by omega, rfl, by simpa [arcsTo] using T0.out, U00.out, fun k hk => .inl hk, Nat.le_refl _, BB.out⟩
  case round =>
    obtain ⟨i, g1, hi, rfl, h1, h2, h3, h5, h4⟩ := hrel
    have SZ : Hid (W0.heap.size ≤ wr.heap.size) := h5
    have T1 : Hid _ := h1
    have U1 : Hid (Upd (tanFp d g bC bE) w wr) := h2
    have F1 : Hid (∀ k ∈ tanFp d g1 bC bE, k ∈ tanFp d g bC bE ∨ W0.heap.size ≤ k) := h3
    have B1 : Hid (Blk wr w.heap.size 161 #[.slice sa f.length sc, .int .i64 i0]) := h4
    have NB : Hid (w.heap.size ∉ tanFp d g1 bC bE) := by
      intro hm
      rcases h3 _ hm with z | z
      · have := HH.out.lt _ z; omega
      · omega
    by_cases hlt : i < f.length
    · obtain ⟨t, ht⟩ := has_at f hlt
      have htm : t ∈ (altOf ws c v).f := by rw [← FF.out]; exact List.mem_of_getElem? ht
      have htG := HW.out t htm
      obtain ⟨b, m1, m2, m3⟩ := K3.out.2.2.2 i t (by rw [← FF.out]; exact ht)
      (try simp only at m2)
      subst m2
      have m4 := h2.cell m3 (HH.out.ap b m1)
      have c1 : wr.cell? ⟨w.heap.size, 1, none⟩ = some (.int .i64 i0) := h4.cell 1
      have FT : Hid (f[i]? = some t) := ht
      have hcon : Hid (∀ z : World, Upd [] wr z → Calls Ybaz.prog 37 #[.pointer (some ⟨d, 0, none⟩), .int .i64 t, .int .i64 i0] z fun e w' => e = .returned (.tuple #[]) ∧ ∃ g', Gr w' d 0 g' (arc (arcsTo G (f.take i) i0) t i0) J ∧ Grew d z w' g1 g') := by
        intro z hz
        refine addArc_arc z d 0 g1 _ J (T1.out.grow hz).gr t i0 (by rw [arcsTo_len]; exact htG) ?_
        have := wt_to i0 (f.take i) G
        have : (f.take i).length ≤ f.length := by simp; omega
        omega
      clear h1 h2 h3 h4 ht htm m1 m3
      have ND : Hid (w.heap.size ∉ d :: g1.foot) := fun hm => NB.out (by simp only [List.mem_cons] at hm; simp only [tanFp, List.mem_cons, List.mem_append]; exact hm.imp id .inl)
      go_upto_region 4 with fail
      go_region_held3 (fun z => z.cell? ⟨w.heap.size, 1, none⟩ = some (.int .i64 i0)) (first | exact c1 | exact r2.upd.cell c1 ND.out) ((go_at_call 37; refine Calls.mono (hcon.out _ (Upd.drew [] _)) ?_; rintro e w' ⟨rfl, g2, r1, r2⟩))
      have TD : TG d bW cW bC cC bE fV g1 (arcsTo G (f.take i) i0) J ws ch se st wr.drew := T1.out.grow (Upd.drew [] _)
      obtain ⟨q1, q2, q3⟩ := TD.arc r1 r2 (by rw [arc_len])
      have zd : wr.drew.heap.size = wr.heap.size := rfl
      have zU := U1.out.size
      have Q1 : Hid _ := q1
      have Q2 : Hid (Upd (tanFp d g bC bE) w w') := (U1.out.trans (Upd.drew [] _) (by simp)).trans q2 (fun k hk => (F1.out k hk).imp id (fun z => by omega))
      have Q3 : Hid (∀ k ∈ tanFp d g2 bC bE, k ∈ tanFp d g bC bE ∨ W0.heap.size ≤ k) := fun k hk => by
        rcases q3 k hk with z | z
        · exact F1.out k z
        · exact .inr (Nat.le_trans SZ.out z)
      have Q4 : Hid (Blk w' w.heap.size 161 #[.slice (some ⟨b, 0, none⟩) f.length sc, .int .i64 i0]) := Blk.keep (Blk.keep B1.out (Upd.drew [] _) (by simp)) r2.upd ND.out
      have Q5 : Hid (W0.heap.size ≤ w'.heap.size) := Nat.le_trans SZ.out r2.upd.size
      clear q1 q2 q3 TD r1 r2 zd zU
      go_wp2_with fail
      refine ⟨⟨i + 1, g2, by omega, by go_num, ?_, Q2.out, Q3.out, Q5.out, Q4.out⟩, by simp [intOf] <;> omega⟩
      have e9 : arcsTo G (f.take (i + 1)) i0 = arc (arcsTo G (f.take i) i0) t i0 := by
        rw [List.take_add_one, FT.out]
        simp [arcsTo]
      rw [e9]
      exact Q1.out
    · have hi2 : i = f.length := by omega
      have e3 := (h1.cell (j := 3) rfl).1
      obtain ⟨z0, hz0⟩ := has_at ch (k := c) (by rw [h1.lens.1]; exact hc)
      obtain ⟨m5, m6⟩ := h1.gch hz0
      clear h1 h2 h3 h4 hz0
      go_wp2_with fail
      go_end0
      refine ⟨rfl, g1, ?_, U1.out.trans (Upd.store _ _ _ _) (fun k hk => .inl (by simp at hk; simp [tanFp, hk])), fun k hk => (F1.out k hk).imp id (fun z => by omega)⟩
      have := T1.out.setCh c (v : Int)
      rw [hi2, List.take_length] at this
      unfold pickG
      rw [← FF.out, ← II.out]
      exact this
theorem nodup_ix {P : List Nat} (hn : P.Nodup) {i j x : Nat} (h1 : P[i]? = some x) (h2 : P[j]? = some x) : i = j := by
  rw [List.nodup_iff_pairwise_ne, List.pairwise_iff_getElem] at hn
  obtain ⟨x1, x2⟩ := List.getElem?_eq_some_iff.mp h1
  obtain ⟨y1, y2⟩ := List.getElem?_eq_some_iff.mp h2
  rcases Nat.lt_trichotomy i j with c | c | c
  · exact absurd (x2.trans y2.symm) (hn i j x1 y1 c)
  · exact c
  · exact absurd (y2.trans x2.symm) (hn j i y1 x1 c)
/-- Where a row of a graph lies. -/
theorem Gr.rowAt {w : World} {d o : Nat} {g : GG} {G : List (List Nat)} {J : List Bool} (h : Gr w d o g G J) {t : Nat} {r : List Nat} (hr : G[t]? = some r) : ∃ (gS : Nat) (s : SV), g.aS = some ⟨gS, 0, none⟩ ∧ g.fS = [gS] ∧ g.vs[t]? = some s ∧ s.n = r.length ∧ s.n ≤ s.c ∧ s.c ≤ 9223372036854775807 ∧ w.cell? ⟨d, o, none⟩ = some (.slice (some ⟨gS, 0, none⟩) G.length g.kS) ∧ w.cell? ⟨gS, t, none⟩ = some (.slice s.a s.n s.c) ∧ w.frozen? ⟨gS, t, none⟩ = false ∧ (r ≠ [] → ∃ b, s.a = some ⟨b, 0, none⟩) ∧ ∀ (j x : Nat), r[j]? = some x → ∃ b, s.a = some ⟨b, 0, none⟩ ∧ w.cell? ⟨b, j, none⟩ = some (.int .i64 x) := by
  have ht := (List.getElem?_eq_some_iff.mp hr).1
  obtain ⟨gS, e1, e2, e3, e4, e5⟩ := h.sS.has (by omega)
  obtain ⟨s, hs⟩ := has_at g.vs (k := t) (by rw [h.lV]; exact ht)
  obtain ⟨f, hf⟩ := has_at g.fI (k := t) (by rw [h.lI]; exact ht)
  obtain ⟨h1, h2⟩ := h.sI t s f r hs hf hr
  have c1 := h.cS
  rw [e1] at c1
  refine ⟨gS, s, e1, e2, hs, h1, h2.le.1, h2.le.2, c1, by rw [e4 t (by omega)]; simp [hs, SV.val], e5 t, fun hne => ?_, fun j x hx => ?_⟩
  · obtain ⟨b, z, _⟩ := h2.has (by rw [h1]; exact List.length_pos_iff.mpr hne)
    exact ⟨b, z⟩
  · obtain ⟨b, z1, _, z2⟩ := h2.get (j := j) (v := nI x) (by simp [hx])
    exact ⟨b, z1, z2⟩
/-- A way is taken back. -/
theorem drop_row {G : List (List Nat)} {t : Nat} {r : List Nat} {x : Nat} (h : G[t]? = some (r ++ [x])) : dropAt G t = G.set t r := by
  simp [dropAt, outs, h]
theorem drop_wt : ∀ (f : List Nat) (G : List (List Nat)), wt (f.foldl dropAt G) ≤ wt G
  | [], G => Nat.le_refl _
  | t :: f, G => by
    refine Nat.le_trans (drop_wt f (dropAt G t)) ?_
    by_cases ht : t < G.length
    · obtain ⟨r, hr⟩ := has_at G ht
      have := wt_set G t r (outs G t).dropLast hr
      have e : outs G t = r := by simp [outs, hr]
      rw [e] at this
      simp at this
      unfold dropAt
      rw [e]
      omega
    · unfold dropAt
      rw [List.set_eq_of_length_le (by omega)]
      exact Nat.le_refl _
set_option maxHeartbeats 4000000 in
set_option maxRecDepth 100000 in
theorem unpick115 {d bW cW bC cC bE : Nat} {fV : List Nat} {g : GG} {G : List (List Nat)} {J : List Bool} {ws : List (Alt × Alt)} {ch se : List Int} {st : Int} {w : World} (H : TG d bW cW bC cC bE fV g G J ws ch se st w)
    (c v : Nat) (hc : ch[c]? = some (v : Int)) (hv : v ≤ 1) (G0 : List (List Nat)) (hG : G = pickG G0 (altOf ws c v)) (hn : (altOf ws c v).f.Nodup) (hw : ∀ t ∈ (altOf ws c v).f, t < G0.length) (hwt : wt G < 1000000) (hfl : (altOf ws c v).f.length ≤ 100) (hwl : ws.length ≤ 100) (hGl : G.length < 1000000) :
    Calls Ybaz.prog 115 #[.pointer (some ⟨d, 0, none⟩), .int .i64 c] w fun e w' => e = .returned (.tuple #[]) ∧
      ∃ g', g'.foot = g.foot ∧ TG d bW cW bC cC bE fV g' (unpickG G (altOf ws c v)) J ws (ch.set c (-1)) se st w' ∧ Upd (tanFp d g bC bE) w w' := by
  have hcl : c < ws.length := by have := (List.getElem?_eq_some_iff.mp hc).1; rw [H.lens.1] at this; exact this
  obtain ⟨⟨sa, sn, sc⟩, k1, k2, k3⟩ := H.wv.at hcl hv
  simp only at k1
  have e2 := (H.cell (j := 2) rfl).1
  have e3 := (H.cell (j := 3) rfl).1
  have m5 := (H.gch hc).1
  have HH : Hid _ := H
  have K3 : Hid _ := k3
  obtain ⟨f, hf⟩ : ∃ f, f = (altOf ws c v).f := ⟨_, rfl⟩
  have hsn : sn = f.length := by rw [hf]; exact k3.1
  subst hsn
  rw [← hf] at hfl hn hw
  have FF : Hid (f = (altOf ws c v).f) := hf
  have HN : Hid (f.Nodup) := hn
  have HW : Hid (∀ t ∈ f, t < G0.length) := hw
  have HG : Hid (G = arcsTo G0 f (altOf ws c v).i) := by
    show G = arcsTo G0 f (altOf ws c v).i
    rw [hf]; exact hG
  clear H k3 hf hc hn hw hG
  go_enter Ybaz.func115, Ybaz.ntmps115
  go_wp2_with fail
  go_big_quiet (fail)
  have T0 : Hid _ := HH.out.grow (Upd.drewN [] w nq)
  have U0 : Hid (Upd (tanFp d g bC bE) w (w.drewN nq)) := Upd.drewN _ _ _
  obtain ⟨W0, hW0⟩ : ∃ z : World, z = w.drewN nq := ⟨_, rfl⟩
  rw [← hW0] at T0 U0 ⊢
  clear hW0 k1 k2 e2 e3 m5
  go_wp2_with fail
  go_loopw [23] (fun t23 wr => ∃ (i : Nat) (g' : GG), i ≤ f.length ∧ t23 = .int .i64 i ∧ g'.foot = g.foot ∧ TG d bW cW bC cC bE fV g' ((f.take i).foldl dropAt G) J ws ch se st wr ∧ Upd (tanFp d g bC bE) w wr) (fun u _ => f.length - (intOf u).toNat)
  case atStart => exact ⟨0, g, by omega, rfl, rfl, by simpa using T0.out, U0.out⟩
  case round =>
    obtain ⟨i, g1, hi, rfl, h0, h1, h2⟩ := hrel
    have T1 : Hid _ := h1
    have U1 : Hid (Upd (tanFp d g bC bE) w wr) := h2
    have F1 : Hid (g1.foot = g.foot) := h0
    clear h0
    by_cases hlt : i < f.length
    · obtain ⟨t, ht⟩ := has_at f hlt
      have htm : t ∈ f := List.mem_of_getElem? ht
      have htG := HW.out t htm
      have gl : G.length = G0.length := by rw [HG.out, arcsTo_len]
      have htl : t < ((f.take i).foldl dropAt G).length := by rw [unpick_len]; omega
      have hnt : t ∉ f.take i := by
        intro hm
        obtain ⟨j, hj⟩ := List.getElem?_of_mem hm
        rw [List.getElem?_take] at hj
        split at hj
        · rename_i hji
          have := nodup_ix HN.out hj ht
          omega
        · cases hj
      have ho : outs ((f.take i).foldl dropAt G) t = outs G0 t ++ [(altOf ws c v).i] := by
        rw [outs_unpick _ _ (List.Nodup.sublist (List.take_sublist _ _) HN.out) (fun u hu => by rw [gl]; exact HW.out u (List.mem_of_mem_take hu)), if_neg hnt, HG.out, outs_pick f _ G0 HN.out HW.out, if_pos htm]
      have hr : ((f.take i).foldl dropAt G)[t]? = some (outs G0 t ++ [(altOf ws c v).i]) := by
        rw [← ho]
        unfold outs
        rw [List.getD_eq_getElem?_getD, List.getElem?_eq_getElem htl]
        simp
      obtain ⟨b, m1, m2, m3⟩ := K3.out.2.2.2 i t (by rw [← FF.out]; exact ht)
      (try simp only at m2)
      subst m2
      have m4 := h2.cell m3 (HH.out.ap b m1)
      obtain ⟨gS, s, a1, a2, a3, a4, a5, a6, a7, a8, a9, a10, _⟩ := h1.gr.rowAt hr
      obtain ⟨bR, aR⟩ := a10 (by simp)
      have q1 := h1.gr.cut hr a1 a2 a3
      have lenE : ((f.take i).foldl dropAt G).length = G.length := unpick_len _ _
      rw [lenE] at a7
      rw [aR] at a8
      simp only [List.length_append, List.length_singleton] at a4
      rw [a4] at a5 a8
      have htG2 : t < G.length := by omega
      have hsn : (outs G0 t).length < 1000000 := by
        have e1 := row_wt _ _ _ hr
        have e2 : wt ((f.take i).foldl dropAt G) ≤ wt G := drop_wt _ _
        simp at e1
        omega
      have FT : Hid (f[i]? = some t) := ht
      have HR : Hid _ := hr
      have Q1 : Hid _ := q1
      have Q2 : Hid (Upd [gS] wr (wr.setCell ⟨gS, t, none⟩ (.slice s.a (outs G0 t).length s.c))) := Upd.store _ _ _ _
      have GS : Hid (gS ∈ g1.foot) := (by simp [GG.foot, a2] : gS ∈ g1.foot)
      have AR : Hid (s.a = some ⟨bR, 0, none⟩) := aR
      clear h1 h2 ht htm htG gl htl hnt ho hr m1 m3 a1 a2 a3 a4 a10 q1 lenE aR
      go_upto_region 3 with fail
      go_big_region
      have RA : Hid _ := (Q1.out).keep (Upd.drew [] _) (by simp) (by simp)
      rw [AR.out] at RA
      obtain ⟨W1, hW1⟩ : ∃ z : World, z = (wr.setCell ⟨gS, t, none⟩ (.slice (some ⟨bR, 0, none⟩) (outs G0 t).length s.c)).drew := ⟨_, rfl⟩
      have UU : Upd [gS] wr W1 := by
        rw [hW1, ← AR.out]; exact Q2.out.trans (Upd.drew [] _) (by simp)
      rw [← hW1] at RA ⊢
      have G9 : Hid (Grew d wr W1 g1 { g1 with vs := g1.vs.set t ⟨some ⟨bR, 0, none⟩, (outs G0 t).length, s.c⟩ }) := ⟨UU.mono (fun k hk => .inl (by simp at hk; subst hk; exact List.mem_cons_of_mem _ GS.out)), fun k hk => .inl hk, rfl⟩
      obtain ⟨q1, q2, q3⟩ := T1.out.arc RA.out G9.out (by simp)
      have P1 : Hid _ := q1
      have P2 : Hid (Upd (tanFp d g bC bE) w W1) := U1.out.trans q2 (fun k hk => .inl (by rw [tanFp, F1.out] at hk; exact hk))
      clear q1 q2 q3 RA UU hW1 a7 a8 a9 m4 Q1 Q2
      go_wp2_with fail
      refine ⟨⟨i + 1, { g1 with vs := g1.vs.set t ⟨some ⟨bR, 0, none⟩, (outs G0 t).length, s.c⟩ }, by omega, by go_num, F1.out, ?_, P2.out⟩, by simp [intOf] <;> omega⟩
      have e9 : (f.take (i + 1)).foldl dropAt G = ((f.take i).foldl dropAt G).set t (outs G0 t) := by
        rw [List.take_add_one, FT.out, Option.toList_some, List.foldl_append, List.foldl_cons, List.foldl_nil, drop_row HR.out]
      rw [e9]
      exact P1.out
    · have hi2 : i = f.length := by omega
      have e3 := (h1.cell (j := 3) rfl).1
      have hcl2 : c < ch.length := by rw [h1.lens.1]; exact hcl
      obtain ⟨z0, hz0⟩ := has_at ch hcl2
      obtain ⟨m5, m6⟩ := h1.gch hz0
      clear h1 h2 hz0
      go_wp2_with fail
      go_end0
      refine ⟨rfl, g1, F1.out, ?_, U1.out.trans (Upd.store _ _ _ _) (fun k hk => .inl (by simp at hk; simp [tanFp, hk]))⟩
      have := T1.out.setCh c (-1)
      rw [hi2, List.take_length] at this
      unfold unpickG
      rw [← FF.out]
      exact this
end Go.Proofs.YbulkctquGreatFmt

/-
  The graph: addNode, addArc, addJunction.
-/
import Derived.Test.YbulkctquGreatFmtTexts
import Derived.Deep.RegionHeld3
import Derived.Deep.DrawnRows
namespace Go.Proofs.YbulkctquGreatFmt
open Go.ChangeShapes Go.WideShapes Go.ChangeAt Go.RowKit Go.Ord
set_option linter.unusedVariables false
attribute [local go_sem ↓] Go.wp_at_zero Go.wp_at_succ

theorem info83 : (Ybaz.prog.info? 83).map (fun i => (i.zero, i.size, i.bytes)) = some (some (.slice none 0 0), 1, 24) := by kernel_rfl
theorem info3 : (Ybaz.prog.info? 3).map (fun i => (i.zero, i.size, i.bytes)) = some (some (.int .i64 0), 1, 8) := by kernel_rfl
theorem info4 : (Ybaz.prog.info? 4).map (fun i => (i.zero, i.size, i.bytes)) = some (some (.bool false), 1, 1) := by kernel_rfl
theorem mkInts : MakeOf Ybaz.prog 83 3 (.int .i64 0) 1 8 := MakeOf.mk Ybaz.underlying83 info3
theorem mkRows : MakeOf Ybaz.prog 85 83 (.slice none 0 0) 1 24 := MakeOf.mk Ybaz.underlying85 info83
theorem mkBools : MakeOf Ybaz.prog 86 4 (.bool false) 1 1 := MakeOf.mk Ybaz.underlying86 info4
theorem slInts : SliceOf Ybaz.prog 83 3 1 8 := mkInts.slice rfl (by decide)
theorem slRows : SliceOf Ybaz.prog 85 83 1 24 := mkRows.slice rfl (by decide)
theorem slBools : SliceOf Ybaz.prog 86 4 1 1 := mkBools.slice rfl (by decide)

/-- Where a graph lies: its rows, their blocks. -/
structure GG where
  aS : Option Addr
  kS : Nat
  aJ : Option Addr
  kJ : Nat
  vs : List SV
  fS : List Nat
  fJ : List Nat
  fI : List (List Nat)
  kc : Nat → Option Value
def GG.foot (g : GG) : List Nat := g.fS ++ (g.fJ ++ g.fI.flatten)

/-- A graph at block d, offset o: its arcs and its junctions. -/
structure Gr (w : World) (d o : Nat) (g : GG) (G : List (List Nat)) (J : List Bool) : Prop where
  cS : w.cell? ⟨d, o, none⟩ = some (.slice g.aS G.length g.kS)
  cJ : w.cell? ⟨d, o + 1, none⟩ = some (.slice g.aJ G.length g.kJ)
  zS : w.frozen? ⟨d, o, none⟩ = false
  zJ : w.frozen? ⟨d, o + 1, none⟩ = false
  sS : Sl w 83 1 g.aS G.length g.kS g.fS (g.vs.map SV.val)
  sJ : Sl w 4 1 g.aJ G.length g.kJ g.fJ (J.map Value.bool)
  lI : g.fI.length = G.length
  sI : ∀ (i : Nat) (s : SV) (f r : List Nat), g.vs[i]? = some s → g.fI[i]? = some f → G[i]? = some r → s.n = r.length ∧ Sl w 3 1 s.a s.n s.c f (r.map nI)
  nd : (d :: g.foot).Nodup
  oth : ∀ (j : Nat) (v : Value), g.kc j = some v → j ≠ o ∧ j ≠ o + 1 ∧ w.cell? ⟨d, j, none⟩ = some v ∧ w.frozen? ⟨d, j, none⟩ = false

theorem Gr.lt {w : World} {d o : Nat} {g : GG} {G : List (List Nat)} {J : List Bool} (h : Gr w d o g G J) : d < w.heap.size := World.block_lt_of_cell? _ _ h.cS
theorem Gr.lV {w : World} {d o : Nat} {g : GG} {G : List (List Nat)} {J : List Bool} (h : Gr w d o g G J) : g.vs.length = G.length := by have := h.sS.len; simpa using this
theorem Gr.footLt {w : World} {d o : Nat} {g : GG} {G : List (List Nat)} {J : List Bool} (h : Gr w d o g G J) : ∀ k ∈ g.foot, k < w.heap.size := by
  intro k hk
  simp only [GG.foot, List.mem_append, List.mem_flatten] at hk
  rcases hk with hk | hk | ⟨f, hf, hk⟩
  · exact h.sS.lt k hk
  · exact h.sJ.lt k hk
  · obtain ⟨i, hi⟩ := List.getElem?_of_mem hf
    have hl := (List.getElem?_eq_some_iff.mp hi).1
    obtain ⟨s, hs⟩ := has_at g.vs (k := i) (by rw [h.lV]; rw [h.lI] at hl; exact hl)
    obtain ⟨r, hr⟩ := has_at G (k := i) (by rw [h.lI] at hl; exact hl)
    exact (h.sI i s f r hs hi hr).2.lt k hk
theorem Gr.keep {w w' : World} {d o : Nat} {g : GG} {G : List (List Nat)} {J : List Bool} (h : Gr w d o g G J) {S : List Nat} (hu : Upd S w w') (hd : d ∉ S) (hn : ∀ k ∈ g.foot, k ∉ S) : Gr w' d o g G J := by
  have h1 : ∀ k ∈ g.fS, k ∉ S := fun k hk => hn k (by simp [GG.foot, hk])
  have h2 : ∀ k ∈ g.fJ, k ∉ S := fun k hk => hn k (by simp [GG.foot, hk])
  refine ⟨hu.cell h.cS hd, hu.cell h.cJ hd, hu.free h.lt h.zS hd, hu.free h.lt h.zJ hd, h.sS.keep hu h1, h.sJ.keep hu h2, h.lI, ?_, h.nd, fun j v hj => ⟨(h.oth j v hj).1, (h.oth j v hj).2.1, hu.cell (h.oth j v hj).2.2.1 hd, hu.free h.lt (h.oth j v hj).2.2.2 hd⟩⟩
  intro i s f r hs hf hr
  obtain ⟨h3, h4⟩ := h.sI i s f r hs hf hr
  refine ⟨h3, h4.keep hu (fun k hk => hn k ?_)⟩
  simp only [GG.foot, List.mem_append, List.mem_flatten]
  exact .inr (.inr ⟨f, List.mem_of_getElem? hf, hk⟩)

set_option maxRecDepth 100000 in
theorem addNode_any (w : World) (d o : Nat) (g : GG) (G : List (List Nat)) (J : List Bool) (h : Gr w d o g G J) (hb : G.length < 1000000000) :
    Calls Ybaz.prog 36 #[.pointer (some ⟨d, o, none⟩)] w fun e w' => e = .returned (.int .i64 G.length) ∧ ∃ g', Gr w' d o g' (G ++ [[]]) (J ++ [false]) ∧
      Upd (d :: g.foot) w w' ∧ (∀ k ∈ g'.foot, k ∈ g.foot ∨ w.heap.size ≤ k) ∧ g'.kc = g.kc := by
  have hd := h.lt
  have cS := h.cS
  have cJ := h.cJ
  have zS := h.zS
  have zJ := h.zJ
  have HG : Hid _ := h
  have nd := h.nd
  simp only [GG.foot, List.nodup_cons, List.mem_append, not_or, List.nodup_append] at nd
  have hdS : Hid (d ∉ g.fS) := nd.1.1
  have hdJ : Hid (d ∉ g.fJ) := nd.1.2.1
  have hSJ : Hid (∀ k ∈ g.fJ, k ∉ g.fS) := fun k h1 h2 => nd.2.2.2 k h2 k (.inl h1) rfl
  clear h nd
  go_enter Ybaz.func36, Ybaz.ntmps36
  go_wp2_with (first
    | (at_builtin; refine wpList_append_one w _ (Upd.refl [] _) rfl (.tmp 7) (.tmp 8) 85 rfl 83 24 slRows (by decide) g.aS G.length g.kS g.fS (g.vs.map SV.val) rfl HG.out.sS (by simp) _ rfl _ _ rfl (by simp) (by omega) ?_; intro gS kS' w1 hS1 hU1 hF1; have e1 := hU1.cell cS (by simpa using hdS.out); have e2 := hU1.free hd zS (by simpa using hdS.out); have e3 := hU1.cell cJ (by simpa using hdS.out); have e4 := hU1.free hd zJ (by simpa using hdS.out); have hd1 : d < w1.heap.size := Nat.lt_of_lt_of_le hd hU1.size; have hH1 : Hid _ := hS1; have hHU : Hid _ := hU1; have hHF : Hid _ := hF1; clear hS1 hU1 hF1)
    | (at_builtin; refine wpList_append_one (w1.setCell ⟨d, o, none⟩ (.slice (some ⟨gS, 0, none⟩) (G.length + 1) kS')) _ (Upd.refl [] _) rfl (.tmp 16) (.tmp 17) 86 rfl 4 1 slBools (by decide) g.aJ G.length g.kJ g.fJ (J.map Value.bool) rfl ((HG.out.sJ.keep hHU.out (by simpa using hSJ.out)).keep (Upd.store w1 d o _) (by intro k hk h2; simp at h2; subst h2; exact hdJ.out hk)) (by simp) _ rfl _ _ rfl (by simp) (by omega) ?_; intro gJ kJ' w2 hS2 hU2 hF2; go_loud (have q1 := hU2.cell (b := d) (j := o) (v := .slice (some ⟨gS, 0, none⟩) (G.length + 1) kS') (set_same e1) (by simpa using hdJ.out)); go_loud (have q2 := hU2.cell (b := d) (j := o + 1) (v := .slice g.aJ G.length g.kJ) (set_other e3 (.inr (by omega))) (by simpa using hdJ.out)); go_loud (have q3 := hU2.free (b := d) (j := o) (by simpa using hd1) (set_free e2) (by simpa using hdJ.out)); go_loud (have q4 := hU2.free (b := d) (j := o + 1) (by simpa using hd1) (set_free e4) (by simpa using hdJ.out)); have hH2 : Hid _ := hS2; have hHU2 : Hid _ := hU2; have hHF2 : Hid _ := hF2; clear hS2 hU2 hF2))
  go_ret
  have G0 := HG.out
  have fl := G0.footLt
  have nd := G0.nd
  have F1 := hHF.out
  have F2 := hHF2.out
  have z1 := hHU.out.size
  have z2 := hHU2.out.size
  simp only [World.setCell, Array.size_modify] at z2
  have lt1 : ∀ k ∈ g.foot, k < w1.heap.size := fun k hk => Nat.lt_of_lt_of_le (fl k hk) z1
  have inS : ∀ k ∈ g.fS, k ∈ g.foot := fun k hk => by simp [GG.foot, hk]
  have inJ : ∀ k ∈ g.fJ, k ∈ g.foot := fun k hk => by simp [GG.foot, hk]
  have ndf : (g.fS ++ (g.fJ ++ g.fI.flatten)).Nodup ∧ d ∉ g.foot := by
    simp only [List.nodup_cons] at nd; exact ⟨nd.2, nd.1⟩
  obtain ⟨nd1, nd2⟩ := ndf
  simp only [List.nodup_append, List.mem_append] at nd1
  have gSd : gS ≠ d := by
    rintro rfl
    rcases F1 with f | f
    · exact hdS.out f
    · omega
  have gJd : gJ ≠ d := by
    rintro rfl
    rcases F2 with f | f
    · exact hdJ.out f
    · simp at f; omega
  have gSlt : gS < w1.heap.size := hH1.out.lt gS (by simp)
  have gSJ : gS ∉ g.fJ := by
    intro hm
    rcases F1 with f | f
    · exact hSJ.out _ hm f
    · have := fl _ (inJ _ hm); omega
  have gJS : gJ ≠ gS := by
    rintro rfl
    rcases F2 with f | f
    · exact gSJ f
    · simp at f; omega
  have gSI : gS ∉ g.fI.flatten := by
    intro hm
    rcases F1 with f | f
    · exact nd1.2.2 _ f _ (.inr hm) rfl
    · have := fl gS (by simp only [GG.foot, List.mem_append]; exact .inr (.inr hm)); omega
  have gJI : gJ ∉ g.fI.flatten := by
    intro hm
    rcases F2 with f | f
    · exact nd1.2.1.2.2 _ f _ hm rfl
    · simp at f; have := lt1 gJ (by simp only [GG.foot, List.mem_append]; exact .inr (.inr hm)); omega
  have U1 : Upd (d :: g.foot) w w1 := hHU.out.mono (fun k hk => .inl (by simp at hk; simp [inS k hk]))
  have U2 : Upd (d :: g.foot) w (w1.setCell ⟨d, o, none⟩ (.slice (some ⟨gS, 0, none⟩) (G.length + 1) kS')) := U1.trans (Upd.store _ _ _ _) (fun k hk => .inl (by simp at hk; simp [hk]))
  have U3 : Upd (d :: g.foot) w w2 := U2.trans hHU2.out (fun k hk => .inl (by simp at hk; simp [inJ k hk]))
  have U4 := U3.trans (Upd.store w2 d (o + 1) (.slice (some ⟨gJ, 0, none⟩) (G.length + 1) kJ')) (fun k hk => .inl (by simp at hk; simp [hk]))
  have VI : Upd (d :: (g.fS ++ g.fJ)) w (w2.setCell ⟨d, o + 1, none⟩ (.slice (some ⟨gJ, 0, none⟩) (G.length + 1) kJ')) :=
    (((hHU.out.mono (T := d :: (g.fS ++ g.fJ)) (fun k hk => .inl (by simp at hk; simp [hk]))).trans (Upd.store w1 d o (.slice (some ⟨gS, 0, none⟩) (G.length + 1) kS')) (fun k hk => .inl (by simp at hk; simp [hk]))).trans hHU2.out (fun k hk => .inl (by simp at hk; simp [hk]))).trans (Upd.store w2 d (o + 1) _) (fun k hk => .inl (by simp at hk; simp [hk]))
  refine ⟨by simp, ⟨some ⟨gS, 0, none⟩, kS', some ⟨gJ, 0, none⟩, kJ', g.vs ++ [⟨none, 0, 0⟩], [gS], [gJ], g.fI ++ [[]], g.kc⟩, ⟨?_, ?_, ?_, ?_, ?_, ?_, ?_, ?_, ?_, ?_⟩, U4, ?_, rfl⟩
  · simpa using set_other q1 (.inr (by omega))
  · simpa using set_same q2
  · exact set_free q3
  · exact set_free q4
  · have := ((hH1.out.keep (Upd.store w1 d o (.slice (some ⟨gS, 0, none⟩) (G.length + 1) kS')) (by simp [gSd])).keep hHU2.out (by simp [gSJ])).keep (Upd.store w2 d (o + 1) (.slice (some ⟨gJ, 0, none⟩) (G.length + 1) kJ')) (by simp [gSd])
    simpa [SV.val] using this
  · have := hH2.out.keep (Upd.store w2 d (o + 1) (.slice (some ⟨gJ, 0, none⟩) (G.length + 1) kJ')) (by simp [gJd])
    simpa using this
  · simp [G0.lI]
  · intro i s f r hs hf hr
    have lV := G0.lV
    have lI := G0.lI
    by_cases hi : i < G.length
    · rw [List.getElem?_append_left (by omega)] at hs hf hr
      obtain ⟨h3, h4⟩ := G0.sI i s f r hs hf hr
      refine ⟨h3, h4.keep VI ?_⟩
      intro k hk
      have hkf : k ∈ g.fI.flatten := List.mem_flatten.mpr ⟨f, List.mem_of_getElem? hf, hk⟩
      simp only [List.mem_cons, List.mem_append, not_or]
      refine ⟨?_, ?_, ?_⟩
      · rintro rfl; exact nd2 (by simp only [GG.foot, List.mem_append]; exact .inr (.inr hkf))
      · intro hm; exact nd1.2.2 _ hm _ (.inr hkf) rfl
      · intro hm; exact nd1.2.1.2.2 _ hm _ hkf rfl
    · rw [List.getElem?_append_right (by omega)] at hs hf hr
      have e0 : i - G.length = 0 := by
        have := (List.getElem?_eq_some_iff.mp hr).1
        simp at this; omega
      rw [lV, e0] at hs
      rw [lI, e0] at hf
      rw [e0] at hr
      simp at hs hf hr
      subst hs hf hr
      exact ⟨rfl, Sl.empty _ _ _⟩
  · simp only [GG.foot, List.flatten_append, List.flatten_cons, List.flatten_nil, List.append_nil, List.singleton_append, List.nodup_cons, List.mem_cons, not_or]
    refine ⟨⟨Ne.symm gSd, Ne.symm gJd, ?_⟩, ⟨Ne.symm gJS, gSI⟩, gJI, nd1.2.1.2.1⟩
    intro hm; exact nd2 (by simp only [GG.foot, List.mem_append]; exact .inr (.inr hm))
  · intro j v hj
    obtain ⟨n1, n2, n3, n4⟩ := G0.oth j v hj
    have m1 := hHU.out.cell n3 (by simpa using hdS.out)
    have m2 := hHU.out.free hd n4 (by simpa using hdS.out)
    have m3 : (w1.setCell ⟨d, o, none⟩ (.slice (some ⟨gS, 0, none⟩) (G.length + 1) kS')).cell? ⟨d, j, none⟩ = some v := set_other m1 (.inr (Ne.symm n1))
    have m4 := hHU2.out.cell m3 (by simpa using hdJ.out)
    have m5 := hHU2.out.free (World.block_lt_of_cell? _ _ m3) (set_free m2) (by simpa using hdJ.out)
    exact ⟨n1, n2, set_other m4 (.inr (Ne.symm n2)), set_free m5⟩
  · intro k hk
    simp only [GG.foot, List.flatten_append, List.flatten_cons, List.flatten_nil, List.append_nil, List.singleton_append, List.mem_cons] at hk
    rcases hk with rfl | rfl | hk
    · rcases F1 with f | f
      · exact .inl (inS _ f)
      · exact .inr f
    · rcases F2 with f | f
      · exact .inl (inJ _ f)
      · simp at f; exact .inr (by omega)
    · exact .inl (by simp only [GG.foot, List.mem_append]; exact .inr (.inr hk))

theorem flat_apart : ∀ {fI : List (List Nat)} {i t : Nat} {f f' : List Nat}, fI.flatten.Nodup → t ≠ i → fI[t]? = some f → fI[i]? = some f' → ∀ k ∈ f, k ∉ f'
  | [], _, _, _, _, _, _, h, _ => by simp at h
  | g :: r, 0, 0, _, _, _, h, _, _ => absurd rfl h
  | g :: r, 0, t + 1, f, f', nd, _, h1, h2 => by
    simp at h1 h2; subst h2
    simp only [List.flatten_cons, List.nodup_append] at nd
    intro k hk hm
    exact nd.2.2 k hm k (List.mem_flatten.mpr ⟨f, List.mem_of_getElem? h1, hk⟩) rfl
  | g :: r, i + 1, 0, f, f', nd, _, h1, h2 => by
    simp at h1 h2; subst h1
    simp only [List.flatten_cons, List.nodup_append] at nd
    intro k hk hm
    exact nd.2.2 k hk k (List.mem_flatten.mpr ⟨f', List.mem_of_getElem? h2, hm⟩) rfl
  | g :: r, i + 1, t + 1, f, f', nd, hne, h1, h2 => by
    simp at h1 h2
    simp only [List.flatten_cons, List.nodup_append] at nd
    exact flat_apart nd.2.1 (by omega) h1 h2
theorem mem_flat_set {x : Nat} {y : List Nat} : ∀ {fI : List (List Nat)} {t : Nat}, x ∈ (fI.set t y).flatten → x ∈ y ∨ x ∈ fI.flatten
  | [], _, h => by simp at h
  | f :: r, 0, h => by simp at h ⊢; rcases h with h | h <;> simp [h]
  | f :: r, t + 1, h => by
    simp only [List.set_cons_succ, List.flatten_cons, List.mem_append] at h ⊢
    rcases h with h | h
    · exact .inr (.inl h)
    · rcases mem_flat_set h with h | h
      · exact .inl h
      · exact .inr (.inr h)
theorem nodup_flat_set {y : Nat} : ∀ {fI : List (List Nat)} {t : Nat} {f : List Nat}, fI.flatten.Nodup → fI[t]? = some f → (y ∈ f ∨ y ∉ fI.flatten) → (fI.set t [y]).flatten.Nodup
  | [], _, _, h, _, _ => by simp
  | g :: r, 0, f, h, hf, hy => by
    simp at hf; subst hf
    simp only [List.flatten_cons, List.nodup_append] at h
    simp only [List.set_cons_zero, List.flatten_cons, List.singleton_append, List.nodup_cons]
    refine ⟨?_, h.2.1⟩
    intro hm
    rcases hy with hy | hy
    · exact h.2.2 y hy y hm rfl
    · exact hy (by simp [hm])
  | g :: r, t + 1, f, h, hf, hy => by
    simp at hf
    simp only [List.flatten_cons, List.nodup_append] at h
    have ih := nodup_flat_set (y := y) h.2.1 hf (by rcases hy with hy | hy; exact .inl hy; exact .inr (fun hm => hy (by simp [hm])))
    simp only [List.set_cons_succ, List.flatten_cons, List.nodup_append]
    refine ⟨h.1, ih, ?_⟩
    intro a ha b hb e
    subst e
    rcases mem_flat_set hb with hb | hb
    · simp at hb; subst hb
      rcases hy with hy | hy
      · exact h.2.2 a ha a (List.mem_flatten.mpr ⟨f, List.mem_of_getElem? hf, hy⟩) rfl
      · exact hy (by simp [ha])
    · exact h.2.2 a ha a hb rfl

theorem Gr.arc {w w1 w3 : World} {d o : Nat} {g : GG} {G : List (List Nat)} {J : List Bool} (h : Gr w d o g G J) {t u : Nat} {r : List Nat} (ht : G[t]? = some r) {s : SV} (hs : g.vs[t]? = some s) {f : List Nat} (hf : g.fI[t]? = some f)
    {gS : Nat} (eS : g.aS = some ⟨gS, 0, none⟩) (fS : g.fS = [gS]) {gR c : Nat} (H1 : Sl w1 3 1 (some ⟨gR, 0, none⟩) (s.n + 1) c [gR] (r.map nI ++ [nI u])) (U1 : Upd f w w1) (F1 : gR ∈ f ∨ w.heap.size ≤ gR)
    (U3 : Upd [] (w1.setCell ⟨gS, t, none⟩ (.slice (some ⟨gR, 0, none⟩) (s.n + 1) c)) w3) :
    ∃ g', Gr w3 d o g' (G.set t (r ++ [u])) J ∧ Upd (d :: g.foot) w w3 ∧ (∀ k ∈ g'.foot, k ∈ g.foot ∨ w.heap.size ≤ k) ∧ g'.kc = g.kc := by
  have htl := (List.getElem?_eq_some_iff.mp ht).1
  have fl := h.footLt
  have lV := h.lV
  have lI := h.lI
  have nd := h.nd
  have hn := (h.sI t s f r hs hf ht).1
  have hfin : ∀ k ∈ f, k ∈ g.fI.flatten := fun k hk => List.mem_flatten.mpr ⟨f, List.mem_of_getElem? hf, hk⟩
  simp only [List.nodup_cons] at nd
  obtain ⟨nd2, nd1⟩ := nd
  have hdf : ∀ k ∈ g.foot, d ≠ k := fun k hk e => nd2 (e ▸ hk)
  simp only [GG.foot, List.nodup_append, List.mem_append] at nd1
  have inF : ∀ k ∈ f, k ∈ g.foot := fun k hk => by simp only [GG.foot, List.mem_append]; exact .inr (.inr (hfin k hk))
  have inI : ∀ k ∈ g.fI.flatten, k ∈ g.foot := fun k hk => by simp only [GG.foot, List.mem_append]; exact .inr (.inr hk)
  have inS : gS ∈ g.foot := by simp [GG.foot, fS]
  have inJ : ∀ k ∈ g.fJ, k ∈ g.foot := fun k hk => by simp [GG.foot, hk]
  have hdS : d ≠ gS := hdf gS inS
  have gSf : ∀ k ∈ g.fI.flatten, k ≠ gS := fun k hk e => nd1.2.2 gS (by simp [fS]) gS (.inr (e ▸ hk)) rfl
  have gSJ : ∀ k ∈ g.fJ, k ≠ gS := fun k hk e => nd1.2.2 gS (by simp [fS]) gS (.inl (e ▸ hk)) rfl
  have JI : ∀ k ∈ g.fJ, k ∉ g.fI.flatten := fun k hk hm => nd1.2.1.2.2 k hk k hm rfl
  have z1 := U1.size
  -- the whole way
  have V : Upd (gS :: f) w w3 := ((U1.mono (T := gS :: f) (fun k hk => .inl (by simp [hk]))).trans (Upd.store w1 gS t _) (fun k hk => .inl (by simp at hk; simp [hk]))).trans U3 (by simp)
  have gRlt := H1.lt gR (by simp)
  have gRd : gR ≠ d := by
    rintro rfl
    rcases F1 with e | e
    · exact hdf _ (inF _ e) rfl
    · have := h.lt; omega
  have gRS : gR ≠ gS := by
    rintro rfl
    rcases F1 with e | e
    · exact gSf _ (hfin _ e) rfl
    · have := fl _ inS; omega
  have gRJ : gR ∉ g.fJ := by
    intro hm
    rcases F1 with e | e
    · exact JI _ hm (hfin _ e)
    · have := fl _ (inJ _ hm); omega
  have gRI : gR ∈ f ∨ gR ∉ g.fI.flatten := by
    rcases F1 with e | e
    · exact .inl e
    · exact .inr (fun hm => by have := fl _ (inI _ hm); omega)
  have nS : d ∉ gS :: f := by
    simp only [List.mem_cons, not_or]
    exact ⟨hdS, fun hm => hdf _ (inF _ hm) rfl⟩
  refine ⟨{ g with vs := g.vs.set t ⟨some ⟨gR, 0, none⟩, s.n + 1, c⟩, fI := g.fI.set t [gR] }, ⟨?_, ?_, ?_, ?_, ?_, ?_, ?_, ?_, ?_, fun j v hj => ⟨(h.oth j v hj).1, (h.oth j v hj).2.1, V.cell (h.oth j v hj).2.2.1 nS, V.free h.lt (h.oth j v hj).2.2.2 nS⟩⟩, V.mono ?_, ?_, rfl⟩
  · simpa using V.cell h.cS nS
  · simpa using V.cell h.cJ nS
  · exact V.free h.lt h.zS nS
  · exact V.free h.lt h.zJ nS
  · have s1 := h.sS
    rw [eS, fS] at s1
    have s2 := (s1.keep U1 (by intro k hk hm; simp at hk; subst hk; exact gSf _ (hfin _ hm) rfl)).store t (.slice (some ⟨gR, 0, none⟩) (s.n + 1) c)
    have s3 := s2.keep U3 (by simp)
    rw [List.map_set]
    simpa [eS, fS, SV.val] using s3
  · have := h.sJ.keep V (by
      intro k hk hm
      simp only [List.mem_cons] at hm
      rcases hm with hm | hm
      · exact gSJ k hk hm
      · exact JI k hk (hfin k hm))
    simpa using this
  · simpa using lI
  · intro i s' f' r' hs' hf' hr'
    simp only [] at hs' hf'
    by_cases hi : t = i
    · subst hi
      rw [List.getElem?_set_self (by omega)] at hs' hf' hr'
      injection hs' with hs'
      injection hf' with hf'
      injection hr' with hr'
      subst hs' hf' hr'
      refine ⟨by simp [hn], ?_⟩
      have := (H1.keep (Upd.store w1 gS t (.slice (some ⟨gR, 0, none⟩) (s.n + 1) c)) (by simp [gRS])).keep U3 (by simp)
      simpa using this
    · rw [List.getElem?_set_ne hi] at hs' hf' hr'
      obtain ⟨h3, h4⟩ := h.sI i s' f' r' hs' hf' hr'
      refine ⟨h3, h4.keep V ?_⟩
      intro k hk hm
      have hkI : k ∈ g.fI.flatten := List.mem_flatten.mpr ⟨f', List.mem_of_getElem? hf', hk⟩
      simp only [List.mem_cons] at hm
      rcases hm with hm | hm
      · exact gSf k hkI hm
      · exact flat_apart nd1.2.1.2.1 hi hf hf' k hm hk
  · simp only [GG.foot, List.nodup_cons, List.mem_append, not_or, List.nodup_append]
    refine ⟨⟨?_, ?_, ?_⟩, nd1.1, ⟨nd1.2.1.1, nodup_flat_set nd1.2.1.2.1 hf gRI, ?_⟩, ?_⟩
    · rw [fS]; simpa using hdS
    · exact fun hm => hdf _ (inJ _ hm) rfl
    · intro hm
      rcases mem_flat_set hm with hm | hm
      · simp at hm; exact gRd hm.symm
      · exact hdf _ (inI _ hm) rfl
    · intro a ha b hb e
      subst e
      rcases mem_flat_set hb with hb | hb
      · simp at hb; subst hb; exact gRJ ha
      · exact JI _ ha hb
    · intro a ha b hb e
      subst e
      rw [fS] at ha
      simp at ha
      subst ha
      rcases hb with hb | hb
      · exact gSJ _ hb rfl
      · rcases mem_flat_set hb with hb | hb
        · simp at hb; exact gRS hb.symm
        · exact gSf _ hb rfl
  · intro k hk
    simp only [List.mem_cons] at hk
    rcases hk with rfl | hk
    · exact .inl (by simp [inS])
    · exact .inl (by simp [inF k hk])
  · intro k hk
    simp only [GG.foot, List.mem_append] at hk
    rcases hk with hk | hk | hk
    · exact .inl (by simp [GG.foot, hk])
    · exact .inl (inJ k hk)
    · rcases mem_flat_set hk with hk | hk
      · simp at hk; subst hk
        rcases F1 with e | e
        · exact .inl (inF _ e)
        · exact .inr e
      · exact .inl (inI k hk)

set_option maxRecDepth 100000 in
set_option maxHeartbeats 3200000 in
theorem addArc_any (w : World) (d o : Nat) (g : GG) (G : List (List Nat)) (J : List Bool) (h : Gr w d o g G J) (t u : Nat) (r : List Nat) (ht : G[t]? = some r) (hr : r.length < 1000000000) :
    Calls Ybaz.prog 37 #[.pointer (some ⟨d, o, none⟩), .int .i64 t, .int .i64 u] w fun e w' => e = .returned (.tuple #[]) ∧ ∃ g', Gr w' d o g' (G.set t (r ++ [u])) J ∧
      Upd (d :: g.foot) w w' ∧ (∀ k ∈ g'.foot, k ∈ g.foot ∨ w.heap.size ≤ k) ∧ g'.kc = g.kc := by
  have hd := h.lt
  have cS := h.cS
  have htl := (List.getElem?_eq_some_iff.mp ht).1
  obtain ⟨s, hs⟩ := has_at g.vs (k := t) (by rw [h.lV]; exact htl)
  obtain ⟨f, hf⟩ := has_at g.fI (k := t) (by rw [h.lI]; exact htl)
  obtain ⟨gS, eS, fS, gSlt, cR0, zR0⟩ := h.sS.has (by omega)
  have cR : w.cell? ⟨gS, t, none⟩ = some (.slice s.a s.n s.c) := (cR0 t (by omega)).trans (by simp [hs, SV.val])
  have zR := zR0 t
  obtain ⟨hn, hrow⟩ := h.sI t s f r hs hf ht
  have nd := h.nd
  have hfin : ∀ k ∈ f, k ∈ g.fI.flatten := fun k hk => List.mem_flatten.mpr ⟨f, List.mem_of_getElem? hf, hk⟩
  have hdf : Hid (d ∉ f) := by
    intro hm
    simp only [List.nodup_cons, GG.foot, List.mem_append, not_or] at nd
    exact nd.1.2.2 (hfin _ hm)
  have hSf : Hid (gS ∉ f) := by
    intro hm
    simp only [List.nodup_cons, GG.foot, List.nodup_append, List.mem_append] at nd
    exact nd.2.2.2 gS (by rw [fS]; simp) gS (.inr (hfin _ hm)) rfl
  have HG : Hid _ := h
  have HS : Hid _ := hs
  have HF : Hid _ := hf
  have HT : Hid _ := ht
  have HR : Hid _ := hrow
  have ES : Hid _ := eS
  have FS : Hid _ := fS
  have HFN : Hid _ := hfin
  have HN : Hid _ := hn
  rw [eS] at cS
  have ht0 : (0 : Int) ≤ (t : Int) := by omega
  have ht1 : (t : Int) < (G.length : Int) := by omega
  have hsn : s.n < 1000000000000 := by omega
  have hdS : Hid (d ≠ gS) := by
    rintro rfl
    simp only [List.nodup_cons, GG.foot, List.mem_append, not_or, fS] at nd
    exact nd.1.1 (by simp)
  clear h hs hf ht hrow eS fS hfin cR0 zR0 nd hn
  go_enter Ybaz.func37, Ybaz.ntmps37
  go_wp2_with fail
  go_region_law (refine step_append_one w _ (Upd.drewN [] _ _) (by rfl) (.tmp 17) (.tmp 19) 83 (by rfl) 3 8 slInts (by decide) s.a s.n s.c f (r.map nI) (by rfl) HR.out (by simp) (nI u) rfl _ _ (by rfl) (by simp) hsn ?_; intro gR cR' w1 hS1 hU1 hF1; have q1 := hU1.cell cS (by simpa using hdf.out); have q2 := hU1.cell cR (by simpa using hSf.out); have q3 := hU1.free gSlt zR (by simpa using hSf.out); have H1 : Hid _ := hS1; have U1 : Hid _ := hU1; have F1 : Hid _ := hF1; clear hS1 hU1 hF1)
  all_goals go_wp2_with fail
  all_goals go_end0
  all_goals refine ⟨rfl, HG.out.arc HT.out HS.out HF.out ES.out FS.out H1.out U1.out F1.out ?_⟩
  all_goals exact Upd.refl _ _
end Go.Proofs.YbulkctquGreatFmt

/-
  Arcs added to a clone.
-/
import Derived.Test.YbulkctquGreatFmtTkF
namespace Go.Proofs.YbulkctquGreatFmt
open Go.ChangeShapes Go.WideShapes Go.ChangeAt Go.RowKit Go.Ord
set_option linter.unusedVariables false
attribute [local go_sem ↓] Go.wp_at_zero Go.wp_at_succ
attribute [-go_sem] Go.Builtin.append_
attribute [-go_sem] Go.Instr.buildSlice

/-- A row of a clone: shared and full, or of its own. -/
def RowK (lo : Nat) (w : World) (s : SV) (f r : List Nat) : Prop := s.n = r.length ∧ ((f = [] ∧ s.c = s.n ∧ s.c ≤ 9223372036854775807 ∧ (s.a = none ∧ s.c = 0 ∨ ∃ c, s.a = some ⟨c, 0, none⟩) ∧ ∀ (k x : Nat), r[k]? = some x → ∃ c, s.a = some ⟨c, 0, none⟩ ∧ c < lo ∧ w.cell? ⟨c, k, none⟩ = some (.int .i64 x)) ∨ Sl w 3 1 s.a s.n s.c f (r.map nI))
theorem RowK.keep {lo : Nat} {w w' : World} {s : SV} {f r : List Nat} (h : RowK lo w s f r) {S : List Nat} (hu : Upd S w w') (h1 : ∀ k ∈ f, k ∉ S) (h2 : ∀ k ∈ S, lo ≤ k) : RowK lo w' s f r := by
  refine ⟨h.1, ?_⟩
  rcases h.2 with ⟨a, b, c, d, e⟩ | h3
  · refine .inl ⟨a, b, c, d, fun k x hx => ?_⟩
    obtain ⟨g, g1, g2, g3⟩ := e k x hx
    exact ⟨g, g1, g2, hu.cell g3 (fun hm => by have := h2 g hm; omega)⟩
  · exact .inr (h3.keep hu h1)
set_option maxRecDepth 100000 in
theorem RowK.run {lo : Nat} {w : World} {s : SV} {f r : List Nat} (h : RowK lo w s f r) (u : Nat) (hn : r.length < 1000000) :
    ∃ g' cap' w', (Builtin.append_ #[83, 83] 83 #[.slice s.a r.length s.c, .slice (some ⟨w.heap.size, 0, none⟩) 1 1]).run Ybaz.prog ((w.alloc (.cells #[.int .i64 u] 3)).drew) = .ok (.slice (some ⟨g', 0, none⟩) (r.length + 1) cap') w' ∧ Sl w' 3 1 (some ⟨g', 0, none⟩) (r.length + 1) cap' [g'] ((r ++ [u]).map nI) ∧ Upd f w w' ∧ (g' ∈ f ∨ w.heap.size ≤ g') := by
  have e0 : (r ++ [u]).map nI = r.map nI ++ [.int .i64 u] := by simp [nI]
  rw [e0]
  have hs := h.1
  have own : ∀ {f' : List Nat}, Sl w 3 1 s.a s.n s.c f' (r.map nI) → (∀ k ∈ f', k ∈ f) → ∃ g' cap' w', (Builtin.append_ #[83, 83] 83 #[.slice s.a r.length s.c, .slice (some ⟨w.heap.size, 0, none⟩) 1 1]).run Ybaz.prog ((w.alloc (.cells #[.int .i64 u] 3)).drew) = .ok (.slice (some ⟨g', 0, none⟩) (r.length + 1) cap') w' ∧ Sl w' 3 1 (some ⟨g', 0, none⟩) (r.length + 1) cap' [g'] (r.map nI ++ [.int .i64 u]) ∧ Upd f w w' ∧ (g' ∈ f ∨ w.heap.size ≤ g') := by
    intro f' h3 hf
    rw [hs] at h3
    obtain ⟨g', cap', w', q1, q2, q3, q4⟩ := run_append_new (P := Ybaz.prog) w 83 83 3 8 slInts (by decide) s.a r.length s.c f' (r.map nI) h3 (.int .i64 u) rfl (by omega)
    exact ⟨g', cap', w', q1, q2, q3.mono (fun k hk => .inl (hf k hk)), q4.imp (hf g') id⟩
  rcases h.2 with ⟨a, b, c, dd, e⟩ | h3
  · rcases dd with ⟨d1, d2⟩ | ⟨g, d1⟩
    · have hr : r = [] := List.eq_nil_of_length_eq_zero (by omega)
      subst hr
      refine own (f' := []) ?_ (by simp)
      rw [d1, b.symm.trans d2, d2]
      exact Sl.empty _ _ _
    · obtain ⟨ht, i, z, hi, hz, hsize, hby, hzs, hsz⟩ := slInts
      have hu : Upd [] w ((w.alloc (.cells #[.int .i64 u] 3)).drew) := (Upd.alloc [] _ _).trans (Upd.drew [] _) (by simp)
      obtain ⟨v', w', hrun, ho, hg⟩ := run_append_arg_grows (P := Ybaz.prog) ((w.alloc (.cells #[.int .i64 u] 3)).drew) 83 83 3 i z 1 8 ht hi hz hsize hby hzs hsz ⟨g, 0, none⟩ r.length s.c (r.map nI) (by simp)
        (by
          intro j x hx
          rw [List.getElem?_map, Option.map_eq_some_iff] at hx
          obtain ⟨y, hy, rfl⟩ := hx
          obtain ⟨g', g1, _, g3⟩ := e j y hy
          rw [d1] at g1; injection g1 with g1; injection g1 with g1; subst g1
          rw [Go.WideShapes.add_plain, Nat.zero_add]
          exact hu.cell g3 (by simp)) ⟨w.heap.size, 0, none⟩ 1 1 [.int .i64 u] rfl (one_new w (.int .i64 u) 3) (by omega) (by unfold maxLen; omega) (by omega)
      rw [d1]
      have hu2 := Upd.of_grown0 hg
      rcases ho.2 with ⟨_, hz⟩ | ⟨g', cap, cur, hv, hbg, hb, rr⟩
      · omega
      · subst hv
        refine ⟨g', cap, w', hrun, ⟨ho.1, .inr ⟨g', cur, rfl, rfl, hb, rr⟩⟩, (hu.trans hu2 (by simp)).mono (by simp), .inr ?_⟩
        have := hu.size
        omega
  · exact own h3 (fun k hk => hk)
/-- A clone in a box, arcs of its own added. -/
structure GrK (lo : Nat) (w : World) (d bS : Nat) (aJ : Option Addr) (G : List (List Nat)) (J : List Bool) (Y : List SV) (fI : List (List Nat)) : Prop where
  cS : w.cell? ⟨d, 0, none⟩ = some (.slice (some ⟨bS, 0, none⟩) G.length G.length)
  cJ : w.cell? ⟨d, 1, none⟩ = some (.slice aJ G.length G.length)
  top : Sl w 83 1 (some ⟨bS, 0, none⟩) G.length G.length [bS] (Y.map SV.val)
  lI : fI.length = G.length
  row : ∀ (i : Nat) (s : SV) (f r : List Nat), Y[i]? = some s → fI[i]? = some f → G[i]? = some r → RowK lo w s f r
  nd : (d :: bS :: fI.flatten).Nodup
  own : ∀ k ∈ d :: bS :: fI.flatten, lo ≤ k ∧ k < w.heap.size
  jun : ∀ (i : Nat) (j : Bool), J[i]? = some j → ∃ c, aJ = some ⟨c, 0, none⟩ ∧ c < lo ∧ w.cell? ⟨c, i, none⟩ = some (.bool j)
  lJ : J.length = G.length
  aj : aJ = none ∧ G.length = 0 ∨ ∃ c, aJ = some ⟨c, 0, none⟩
section
variable {lo : Nat} {w w' : World} {d bS : Nat} {aJ : Option Addr} {G : List (List Nat)} {J : List Bool} {Y : List SV} {fI : List (List Nat)}
theorem GrK.lY (h : GrK lo w d bS aJ G J Y fI) : Y.length = G.length := by have := h.top.len; simpa using this
theorem GrK.keep (h : GrK lo w d bS aJ G J Y fI) {S : List Nat} (hu : Upd S w w') (h1 : ∀ k ∈ d :: bS :: fI.flatten, k ∉ S) (h2 : ∀ k ∈ S, lo ≤ k) : GrK lo w' d bS aJ G J Y fI := by
  refine ⟨hu.cell h.cS (h1 d (by simp)), hu.cell h.cJ (h1 d (by simp)), h.top.keep hu (fun k hk => h1 k (by simp at hk; simp [hk])), h.lI, fun i s f r hs hf hr => (h.row i s f r hs hf hr).keep hu (fun k hk => h1 k ?_) h2, h.nd, fun k hk => ⟨(h.own k hk).1, Nat.lt_of_lt_of_le (h.own k hk).2 hu.size⟩, fun i j hj => ?_, h.lJ, h.aj⟩
  · simp only [List.mem_cons, List.mem_flatten]
    exact .inr (.inr ⟨f, List.mem_of_getElem? hf, hk⟩)
  · obtain ⟨c, g1, g2, g3⟩ := h.jun i j hj
    exact ⟨c, g1, g2, hu.cell g3 (fun hm => by have := h2 c hm; omega)⟩
theorem GrK.read (h : GrK lo w d bS aJ G J Y fI) (hG : G.length < 1000000) : GrR w d 0 G J := by
  refine ⟨_, _, _, _, h.cS, h.cJ, Nat.le_refl _, ⟨Nat.le_refl _, by omega⟩, ?_, ⟨fun i r hr => ?_, fun i j hj => ?_, h.lJ⟩⟩
  · exact h.aj
  · have hi := (List.getElem?_eq_some_iff.mp hr).1
    obtain ⟨s, hs⟩ := has_at Y (k := i) (by rw [h.lY]; exact hi)
    obtain ⟨f, hf⟩ := has_at fI (k := i) (by rw [h.lI]; exact hi)
    obtain ⟨b, e1, _, e3⟩ := h.top.get (j := i) (v := s.val) (by simp [hs])
    obtain ⟨r1, r2⟩ := h.row i s f r hs hf hr
    rcases r2 with ⟨a, b', c, dd, e⟩ | r3
    · exact ⟨b, s, e1, r1, ⟨by omega, c⟩, e3, dd, fun k x hx => by
        obtain ⟨g, g1, _, g3⟩ := e k x hx
        exact ⟨g, g1, g3⟩⟩
    · refine ⟨b, s, e1, r1, r3.le, e3, ?_, fun k x hx => ?_⟩
      · rcases r3.lies with ⟨z1, _, z2, _⟩ | ⟨g, cur, z1, _⟩
        · exact .inl ⟨z1, z2⟩
        · exact .inr ⟨g, z1⟩
      · obtain ⟨g, g1, _, g3⟩ := r3.get (j := k) (v := nI x) (by simp [hx])
        exact ⟨g, g1, g3⟩
  · obtain ⟨c, g1, _, g3⟩ := h.jun i j hj
    exact ⟨c, g1, g3⟩
end
set_option maxRecDepth 100000 in
theorem addArcK {lo : Nat} {w : World} {d bS : Nat} {aJ : Option Addr} {G : List (List Nat)} {J : List Bool} {Y : List SV} {fI : List (List Nat)} (H : GrK lo w d bS aJ G J Y fI) (t u : Nat) (ht : t < G.length) (hG : G.length < 100000) (hw : wt G < 1000000) :
    Calls Ybaz.prog 37 #[.pointer (some ⟨d, 0, none⟩), .int .i64 t, .int .i64 u] w fun e w' => e = .returned (.tuple #[]) ∧ ∃ Y' fI', GrK lo w' d bS aJ (arc G t u) J Y' fI' ∧ Upd (bS :: fI.flatten) w w' ∧ ∀ k ∈ fI'.flatten, k ∈ fI.flatten ∨ w.heap.size ≤ k := by
  obtain ⟨r, hr⟩ := has_at G ht
  obtain ⟨⟨sa, sn, sc⟩, hs⟩ := has_at Y (k := t) (by rw [H.lY]; exact ht)
  obtain ⟨f, hf⟩ := has_at fI (k := t) (by rw [H.lI]; exact ht)
  have rk := H.row t _ f r hs hf hr
  have hsn : sn = r.length := rk.1
  subst hsn
  have hrl := row_wt G t r hr
  obtain ⟨gR, cR, w1, hrun, r1, r2, r3⟩ := rk.run u (by omega)
  simp only at hrun
  have c0 := H.cS
  obtain ⟨g', e1, _, glt, cc, zz⟩ := H.top.has (by omega)
  injection e1 with e1
  injection e1 with e1
  subst e1
  have c1 := cc t (by omega)
  rw [show (Y.map SV.val)[t]? = some (.slice sa r.length sc) by simp [hs, SV.val]] at c1
  have z1 := zz t
  have nd := H.nd
  simp only [List.nodup_cons, List.mem_cons, not_or] at nd
  have fin : ∀ k ∈ f, k ∈ fI.flatten := fun k hk => List.mem_flatten.mpr ⟨f, List.mem_of_getElem? hf, hk⟩
  have nbf : bS ∉ f := fun hm => nd.2.1 (fin _ hm)
  have c1' := r2.cell c1 nbf
  have z1' := r2.free glt z1 nbf
  have hdf : d ∉ f := fun hm => nd.1.2 (fin _ hm)
  have c0' := r2.cell c0 hdf
  have hbs := bs83
  have hdl := (H.own d (by simp)).2
  have HH : Hid _ := H
  have R1 : Hid _ := r1
  have R2 : Hid (Upd f w w1) := r2
  have R3 : Hid (gR ∈ f ∨ w.heap.size ≤ gR) := r3
  have HR : Hid (G[t]? = some r) := hr
  have HF : Hid (fI[t]? = some f) := hf
  have FIN : Hid (∀ k ∈ f, k ∈ fI.flatten) := fin
  clear H rk r1 r2 r3 cc zz hs nd fin nbf hdf
  go_enter Ybaz.func37, Ybaz.ntmps37
  go_wp2_with fail
  go_big_region
  go_wp2_with fail
  go_end0
  refine ⟨rfl, ?_⟩
  have st := Upd.store w1 bS t (.slice (some ⟨gR, 0, none⟩) (r.length + 1) cR)
  have nd := HH.out.nd
  have own := HH.out.own
  simp only [List.nodup_cons, List.mem_cons, not_or] at nd
  have hg : gR ∉ [d, bS] ∧ (gR ∈ f ∨ gR ∉ fI.flatten) := by
    rcases R3.out with z | z
    · exact ⟨fun hm => by
        simp at hm
        rcases hm with hm | hm
        · exact nd.1.2 (hm ▸ FIN.out _ z)
        · exact nd.2.1 (hm ▸ FIN.out _ z), .inl z⟩
    · refine ⟨fun hm => ?_, .inr (fun hm => ?_)⟩
      · have : gR < w.heap.size := by
          simp at hm
          rcases hm with hm | hm
          · rw [hm]; exact (own d (by simp)).2
          · rw [hm]; exact (own bS (by simp)).2
        omega
      · have := (own gR (by simp [hm])).2; omega
  have gne : gR ≠ bS := fun e => hg.1 (by simp [e])
  have dbS : d ≠ bS := nd.1.1
  have hYl := HH.out.lY
  have UT : Upd (bS :: fI.flatten) w (w1.setCell ⟨bS, t, none⟩ (.slice (some ⟨gR, 0, none⟩) (r.length + 1) cR)) := (R2.out.mono (fun k hk => .inl (by simp [FIN.out k hk]))).trans st (fun k hk => .inl (by simp at hk; simp [hk]))
  have lo2 : ∀ k ∈ bS :: fI.flatten, lo ≤ k := fun k hk => (own k (by simp only [List.mem_cons] at hk ⊢; exact .inr hk)).1
  have ndd : d ∉ bS :: fI.flatten := fun hm => by
    simp only [List.mem_cons] at hm
    exact hm.elim dbS nd.1.2
  refine ⟨Y.set t ⟨some ⟨gR, 0, none⟩, r.length + 1, cR⟩, fI.set t [gR], ⟨?_, ?_, ?_, ?_, ?_, ?_, ?_, ?_, ?_, ?_⟩, UT, ?_⟩
  · rw [arc_len]; exact UT.cell HH.out.cS ndd
  · rw [arc_len]; exact UT.cell HH.out.cJ ndd
  · rw [arc_len, List.map_set]
    have := (HH.out.top.keep R2.out (fun k hk hm => by simp at hk; subst hk; exact nd.2.1 (FIN.out _ hm))).store t (.slice (some ⟨gR, 0, none⟩) (r.length + 1) cR)
    exact this
  · rw [arc_len]; simpa using HH.out.lI
  · intro i s' f' r' hs' hf' hr'
    have er : G.getD t [] = r := by simp [HR.out]
    by_cases e : t = i
    · subst e
      rw [List.getElem?_set_self (by rw [hYl]; exact ht)] at hs'
      rw [List.getElem?_set_self (by rw [HH.out.lI]; exact ht)] at hf'
      unfold arc at hr'
      rw [er, List.getElem?_set_self ht] at hr'
      injection hs' with hs'
      injection hf' with hf'
      injection hr' with hr'
      subst hs' hf' hr'
      refine ⟨by simp, .inr ?_⟩
      exact R1.out.keep st (by simpa using gne)
    · rw [List.getElem?_set_ne e] at hs' hf'
      unfold arc at hr'
      rw [List.getElem?_set_ne e] at hr'
      have rk := HH.out.row i s' f' r' hs' hf' hr'
      have ff : ∀ k ∈ f', k ∉ f := fun k hk hm => flat_apart nd.2.2 (Ne.symm e) hf' HF.out k hk hm
      have fb : ∀ k ∈ f', k ∉ [bS] := fun k hk hm => by
        simp at hm; subst hm
        exact nd.2.1 (List.mem_flatten.mpr ⟨f', List.mem_of_getElem? hf', hk⟩)
      exact (rk.keep R2.out ff (fun k hk => (own k (by simp [FIN.out k hk])).1)).keep st fb (fun k hk => by simp at hk; subst hk; exact (own _ (by simp)).1)
  · simp only [List.nodup_cons, List.mem_cons, not_or]
    have m : ∀ k, k ∈ (fI.set t [gR]).flatten → k = gR ∨ k ∈ fI.flatten := fun k hk => (mem_flat_set hk).imp (by simp) id
    refine ⟨⟨dbS, fun hm => ?_⟩, fun hm => ?_, nodup_flat_set nd.2.2 HF.out hg.2⟩
    · rcases m d hm with z | z
      · exact hg.1 (by simp [z])
      · exact nd.1.2 z
    · rcases m bS hm with z | z
      · exact gne z.symm
      · exact nd.2.1 z
  · intro k hk
    have sz := UT.size
    simp only [List.mem_cons] at hk
    rcases hk with hk | hk | hk
    · have := own k (by simp [hk]); omega
    · have := own k (by simp [hk]); omega
    · rcases mem_flat_set hk with z | z
      · simp at z
        subst z
        have l1 := R1.out.lt k (by simp)
        have l2 : (w1.setCell ⟨bS, t, none⟩ (.slice (some ⟨k, 0, none⟩) (r.length + 1) cR)).heap.size = w1.heap.size := by simp [World.setCell]
        refine ⟨?_, by omega⟩
        rcases R3.out with z | z
        · exact (own k (by simp [FIN.out k z])).1
        · have := (own d (by simp)); omega
      · have := own k (by simp [z]); omega
  · intro i j hj
    obtain ⟨c, g1, g2, g3⟩ := HH.out.jun i j hj
    exact ⟨c, g1, g2, UT.cell g3 (fun hm => by have := lo2 c hm; omega)⟩
  · rw [arc_len]; exact HH.out.lJ
  · rw [arc_len]; exact HH.out.aj
  · intro k hk
    rcases mem_flat_set hk with z | z
    · simp at z
      subst z
      exact R3.out.imp (FIN.out k) id
    · exact .inl z
end Go.Proofs.YbulkctquGreatFmt

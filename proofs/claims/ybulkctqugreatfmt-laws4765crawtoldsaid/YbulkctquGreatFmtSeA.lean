/-
  The tangle while settle builds it.
-/
import Derived.Test.YbulkctquGreatFmtSetP
import Derived.Test.YbulkctquGreatFmtKlB
namespace Go.Proofs.YbulkctquGreatFmt
open Go.ChangeShapes Go.WideShapes Go.ChangeAt Go.RowKit Go.Ord
set_option linter.unusedVariables false

theorem info162 : (Ybaz.prog.info? 162).map (fun i => (i.zero, i.size, i.bytes)) = some (some (.agg #[.slice none 0 0, .int .i64 0, .slice none 0 0, .int .i64 0]), 4, 64) := by kernel_rfl
theorem slWays : SliceOf Ybaz.prog 208 162 4 64 := (MakeOf.mk Ybaz.underlying208 info162).slice rfl (by decide)
theorem bs208 (a b c d : Value) (w : World) : (Instr.buildSlice 208 1 #[(0, .agg #[a, b, c, d])]).run Ybaz.prog w = .ok (.slice (some ⟨w.heap.size, 0, none⟩) 1 1) (w.alloc (.cells #[a, b, c, d] 162)) :=
  run_buildSlice_one Ybaz.underlying208 info162 (by decide) (by decide) _ _ (by kernel_rfl) w
def kcT (vW vC : SV) : Nat → Option Value := fun j => if j = 2 then some vW.val else if j = 3 then some vC.val else if j = 4 then some (.slice none 0 0) else if j = 5 then some (.int .i64 0) else none
def awC (q : (Alt × Alt) × (SV × SV)) : List Value := [q.2.1.val, nI q.1.1.i, q.2.2.val, nI q.1.2.i]
def tcFp (bK : Nat) (g : GG) (fW fC : List Nat) : List Nat := bK :: (g.foot ++ (fW ++ fC))
structure TC (bK : Nat) (g : GG) (G : List (List Nat)) (J : List Bool) (vW vC : SV) (fW fC fV : List Nat) (ws : List (Alt × Alt)) (vs : List (SV × SV)) (w : World) : Prop where
  gr : Gr w bK 0 g G J
  kc : g.kc = kcT vW vC
  len : vs.length = ws.length
  n : vW.n = ws.length
  nC : vC.n = ws.length
  top : Sl w 162 4 vW.a vW.n vW.c fW ((ws.zip vs).flatMap awC)
  rows : ∀ (c : Nat) (p : Alt × Alt) (q : SV × SV), ws[c]? = some p → vs[c]? = some q → RowV fV w q.1 p.1.f ∧ RowV fV w q.2 p.2.f
  lt : ∀ k ∈ fV, k < w.heap.size
  sc : Sl w 3 1 vC.a vC.n vC.c fC ((List.replicate ws.length (-1)).map iI)
  nd : (tcFp bK g fW fC).Nodup
  ap : ∀ k ∈ fV, k ∉ tcFp bK g fW fC
section
variable {bK : Nat} {g : GG} {G : List (List Nat)} {J : List Bool} {vW vC : SV} {fW fC fV : List Nat} {ws : List (Alt × Alt)} {vs : List (SV × SV)} {w w' : World}
theorem TC.low (h : TC bK g G J vW vC fW fC fV ws vs w) : ∀ k ∈ tcFp bK g fW fC, k < w.heap.size := by
  intro k hk
  simp only [tcFp, List.mem_cons, List.mem_append] at hk
  rcases hk with rfl | hk | hk | hk
  · exact h.gr.lt
  · exact h.gr.footLt k hk
  · exact h.top.lt k hk
  · exact h.sc.lt k hk
theorem TC.keep (h : TC bK g G J vW vC fW fC fV ws vs w) {S : List Nat} (hu : Upd S w w') (h1 : ∀ k ∈ tcFp bK g fW fC, k ∉ S) (h2 : ∀ k ∈ fV, k ∉ S) : TC bK g G J vW vC fW fC fV ws vs w' :=
  ⟨h.gr.keep hu (h1 bK (by simp [tcFp])) (fun k hk => h1 k (by simp [tcFp, hk])), h.kc, h.len, h.n, h.nC, h.top.keep hu (fun k hk => h1 k (by simp [tcFp, hk])), fun c p q hp hq => ⟨(h.rows c p q hp hq).1.keep hu h2, (h.rows c p q hp hq).2.keep hu h2⟩, fun k hk => Nat.lt_of_lt_of_le (h.lt k hk) hu.size, h.sc.keep hu (fun k hk => h1 k (by simp [tcFp, hk])), h.nd, h.ap⟩
theorem TC.grow (h : TC bK g G J vW vC fW fC fV ws vs w) (hu : Upd [] w w') : TC bK g G J vW vC fW fC fV ws vs w' := h.keep hu (by simp) (by simp)
theorem TC.cell (h : TC bK g G J vW vC fW fC fV ws vs w) {j : Nat} {v : Value} (hj : kcT vW vC j = some v) : w.cell? ⟨bK, j, none⟩ = some v ∧ w.frozen? ⟨bK, j, none⟩ = false := by
  rw [← h.kc] at hj
  exact ⟨(h.gr.oth j v hj).2.2.1, (h.gr.oth j v hj).2.2.2⟩
/-- Nodes and arcs are added. -/
theorem TC.graph (h : TC bK g G J vW vC fW fC fV ws vs w) {g' : GG} {G' : List (List Nat)} {J' : List Bool} (h1 : Gr w' bK 0 g' G' J') (hu : Upd (bK :: g.foot) w w') (hf : ∀ k ∈ g'.foot, k ∈ g.foot ∨ w.heap.size ≤ k) (hk : g'.kc = g.kc) : TC bK g' G' J' vW vC fW fC fV ws vs w' ∧ Upd (tcFp bK g fW fC) w w' ∧ ∀ k ∈ tcFp bK g' fW fC, k ∈ tcFp bK g fW fC ∨ w.heap.size ≤ k := by
  have lt := h.low
  have nd := h.nd
  simp only [tcFp, List.nodup_cons, List.mem_append, not_or] at nd
  have nd2 := nd.2
  rw [List.nodup_append] at nd2
  have sub : ∀ k ∈ bK :: g.foot, k ∈ tcFp bK g fW fC := fun k hk => by
    simp only [List.mem_cons] at hk
    simp only [tcFp, List.mem_cons, List.mem_append]
    exact hk.imp id .inl
  have apW : ∀ k ∈ fW ++ fC, k ∉ bK :: g.foot := fun k hk hm => by
    simp only [List.mem_cons] at hm
    rcases hm with hm | hm
    · subst hm
      rcases List.mem_append.mp hk with z | z
      · exact nd.1.2.1 z
      · exact nd.1.2.2 z
    · exact nd2.2.2 k hm k hk rfl
  have g1 := h1.nd
  simp only [List.nodup_cons] at g1
  refine ⟨⟨h1, by rw [hk]; exact h.kc, h.len, h.n, h.nC, h.top.keep hu (fun k hk => apW k (by simp [hk])), fun c p q hp hq => ⟨(h.rows c p q hp hq).1.keep hu (fun k hk hm => h.ap k hk (sub k hm)), (h.rows c p q hp hq).2.keep hu (fun k hk hm => h.ap k hk (sub k hm))⟩, fun k hk => Nat.lt_of_lt_of_le (h.lt k hk) hu.size, h.sc.keep hu (fun k hk => apW k (by simp [hk])), ?_, ?_⟩, hu.mono (fun k hk => .inl (sub k hk)), ?_⟩
  · simp only [tcFp, List.nodup_cons, List.nodup_append, List.mem_append, not_or]
    have n2 := nd2.2.1
    rw [List.nodup_append] at n2
    refine ⟨⟨g1.1, nd.1.2.1, nd.1.2.2⟩, g1.2, n2, ?_⟩
    intro x hx y hy e
    subst e
    rcases hf x hx with z | z
    · exact nd2.2.2 x z x (List.mem_append.mpr hy) rfl
    · have := lt x (by simp only [tcFp, List.mem_cons, List.mem_append]; exact .inr (.inr hy)); omega
  · intro k hk hm
    have o := h.ap k hk
    simp only [tcFp, List.mem_cons, List.mem_append, not_or] at o hm
    rcases hm with hm | hm | hm | hm
    · exact o.1 hm
    · rcases hf k hm with z | z
      · exact o.2.1 z
      · have := h.lt k hk; omega
    · exact o.2.2.1 hm
    · exact o.2.2.2 hm
  · intro k hk
    simp only [tcFp, List.mem_cons, List.mem_append] at hk ⊢
    rcases hk with hk | hk | hk
    · exact .inl (.inl hk)
    · exact (hf k hk).imp (fun z => .inr (.inl z)) id
    · exact .inl (.inr (.inr hk))
/-- One more choice: its ways in the table. -/
theorem TC.ways (h : TC bK g G J vW vC fW fC fV ws vs w) {w1 : World} {gR cR : Nat} {A0 A1 : Alt} {s0 s1 : SV} {fN : List Nat} (r1 : Sl w1 162 4 (some ⟨gR, 0, none⟩) (vW.n + 1) cR [gR] ((ws.zip vs).flatMap awC ++ [s0.val, nI A0.i, s1.val, nI A1.i])) (r2 : Upd fW w w1) (r3 : gR ∈ fW ∨ w.heap.size ≤ gR)
    (q0 : RowV fN w s0 A0.f) (q1 : RowV fN w s1 A1.f) (hN : ∀ k ∈ fN, k < w.heap.size ∧ k ∉ tcFp bK g fW fC) {vC' : SV} {gC cC : Nat} {w3 : World} (r4 : Sl w3 3 1 (some ⟨gC, 0, none⟩) (vC.n + 1) cC [gC] ((List.replicate ws.length (-1)).map iI ++ [.int .i64 (-1)])) (r5 : Upd fC (w1.setCell ⟨bK, 2, none⟩ (.slice (some ⟨gR, 0, none⟩) (vW.n + 1) cR)) w3) (r6 : gC ∈ fC ∨ w1.heap.size ≤ gC) :
    ∃ g', g'.foot = g.foot ∧ TC bK g' G J ⟨some ⟨gR, 0, none⟩, vW.n + 1, cR⟩ ⟨some ⟨gC, 0, none⟩, vC.n + 1, cC⟩ [gR] [gC] (fV ++ fN) (ws ++ [(A0, A1)]) (vs ++ [(s0, s1)]) (w3.setCell ⟨bK, 3, none⟩ (.slice (some ⟨gC, 0, none⟩) (vC.n + 1) cC)) ∧ Upd (tcFp bK g fW fC) w (w3.setCell ⟨bK, 3, none⟩ (.slice (some ⟨gC, 0, none⟩) (vC.n + 1) cC)) := by
  have lt := h.low
  have nd := h.nd
  simp only [tcFp, List.nodup_cons, List.mem_append, not_or] at nd
  obtain ⟨⟨nb1, nb2, nb3⟩, nd2⟩ := nd
  simp only [List.nodup_append, List.mem_append] at nd2
  obtain ⟨ng, ⟨nw1, nw2, nwc⟩, ngw⟩ := nd2
  have z1 := r2.size
  have z2 : (w1.setCell ⟨bK, 2, none⟩ (.slice (some ⟨gR, 0, none⟩) (vW.n + 1) cR)).heap.size = w1.heap.size := by simp [World.setCell]
  have z3 := r5.size
  have lg : gR < w1.heap.size := r1.lt gR (by simp)
  have hbK : bK < w.heap.size := h.gr.lt
  have inT : ∀ {k}, k ∈ g.foot → k ∈ tcFp bK g fW fC := fun {k} hk => by simp [tcFp, hk]
  have gRb : gR ≠ bK := by
    rintro rfl
    rcases r3 with z | z
    · exact nb2 z
    · omega
  have gRg : gR ∉ g.foot := fun hm => by
    rcases r3 with z | z
    · exact ngw gR hm gR (.inl z) rfl
    · have := lt gR (inT hm); omega
  have gRC : gR ∉ fC := fun hm => by
    rcases r3 with z | z
    · exact nwc gR z gR hm rfl
    · have := lt gR (by simp [tcFp, hm]); omega
  have gCb : gC ≠ bK := by
    rintro rfl
    rcases r6 with z | z
    · exact nb3 z
    · omega
  have gCg : gC ∉ g.foot := fun hm => by
    rcases r6 with z | z
    · exact ngw gC hm gC (.inr z) rfl
    · have := lt gC (inT hm); omega
  have gCR : gC ≠ gR := by
    rintro rfl
    rcases r6 with z | z
    · exact gRC z
    · omega
  have st1 := Upd.store w1 bK 2 (.slice (some ⟨gR, 0, none⟩) (vW.n + 1) cR)
  have st2 := Upd.store w3 bK 3 (.slice (some ⟨gC, 0, none⟩) (vC.n + 1) cC)
  have gr1 := h.gr.keep r2 nb2 (fun k hk hm => ngw k hk k (.inl hm) rfl)
  have k2 : g.kc 2 = some vW.val := by rw [h.kc]; rfl
  have gr2 := gr1.setOth k2 (.slice (some ⟨gR, 0, none⟩) (vW.n + 1) cR)
  have gr3 := gr2.keep r5 nb3 (fun k hk hm => ngw k hk k (.inr hm) rfl)
  have k3 : (fun i => if i = 2 then some (Value.slice (some ⟨gR, 0, none⟩) (vW.n + 1) cR) else g.kc i) 3 = some vC.val := by
    show g.kc 3 = _
    rw [h.kc]; rfl
  have gr4 := gr3.setOth (j := 3) (u := vC.val) k3 (.slice (some ⟨gC, 0, none⟩) (vC.n + 1) cC)
  have UT : Upd (tcFp bK g fW fC) w (w3.setCell ⟨bK, 3, none⟩ (.slice (some ⟨gC, 0, none⟩) (vC.n + 1) cC)) := (((r2.mono (fun k hk => .inl (by simp [tcFp, hk]))).trans st1 (fun k hk => .inl (by simp at hk; simp [tcFp, hk]))).trans r5 (fun k hk => .inl (by simp [tcFp, hk]))).trans st2 (fun k hk => .inl (by simp at hk; simp [tcFp, hk]))
  have nV : ∀ k ∈ fV ++ fN, k < w.heap.size ∧ k ∉ tcFp bK g fW fC := fun k hk => by
    rcases List.mem_append.mp hk with z | z
    · exact ⟨h.lt k z, h.ap k z⟩
    · exact hN k z
  refine ⟨{ g with kc := fun i => if i = 3 then some (.slice (some ⟨gC, 0, none⟩) (vC.n + 1) cC) else if i = 2 then some (.slice (some ⟨gR, 0, none⟩) (vW.n + 1) cR) else g.kc i }, rfl, ⟨gr4, ?_, by simp [h.len], by simp [h.n], by simp [h.nC], ?_, ?_, fun k hk => Nat.lt_of_lt_of_le (nV k hk).1 UT.size, ?_, ?_, ?_⟩, UT⟩
  · funext j
    simp only [kcT, SV.val]
    by_cases e3 : j = 3
    · subst e3; simp
    · by_cases e2 : j = 2
      · subst e2; simp
      · simp only [e3, e2, if_false]
        rw [h.kc]
        simp [kcT, e2, e3]
  · rw [List.zip_append h.len.symm, List.flatMap_append]
    have := ((r1.keep st1 (by simpa using gRb)).keep r5 (by simpa using gRC)).keep st2 (by simpa using gRb)
    simpa [awC] using this
  · intro c p q hp hq
    have old : ∀ {s : SV} {r : List Nat}, RowV (fV ++ fN) w s r → RowV (fV ++ fN) (w3.setCell ⟨bK, 3, none⟩ (.slice (some ⟨gC, 0, none⟩) (vC.n + 1) cC)) s r := fun {s r} hr => hr.keep UT (fun k hk => (nV k hk).2)
    by_cases e : c < ws.length
    · rw [List.getElem?_append_left e] at hp
      rw [List.getElem?_append_left (by rw [h.len]; exact e)] at hq
      obtain ⟨g1, g2⟩ := h.rows c p q hp hq
      exact ⟨old (g1.mono (fun k hk => by simp [hk])), old (g2.mono (fun k hk => by simp [hk]))⟩
    · have e2 := (List.getElem?_eq_some_iff.mp hp).1
      have e3 : c = ws.length := by simp at e2; omega
      subst e3
      rw [List.getElem?_append_right (Nat.le_refl _)] at hp
      rw [List.getElem?_append_right (by rw [h.len]; exact Nat.le_refl _)] at hq
      simp at hp
      simp [h.len] at hq
      subst hp hq
      exact ⟨old (q0.mono (fun k hk => by simp [hk])), old (q1.mono (fun k hk => by simp [hk]))⟩
  · have := r4.keep st2 (by simpa using gCb)
    rw [List.length_append, List.length_singleton, List.replicate_succ', List.map_append]
    exact this
  · simp only [tcFp, List.nodup_cons, List.nodup_append, List.mem_append, List.mem_singleton, not_or]
    refine ⟨⟨nb1, Ne.symm gRb, Ne.symm gCb⟩, ng, ⟨by simp, by simp, ?_⟩, ?_⟩
    · intro x hx y hy e
      subst hx hy
      exact gCR e.symm
    · intro x hx y hy e
      subst e
      rcases hy with rfl | rfl
      · exact gRg hx
      · exact gCg hx
  · intro k hk hm
    obtain ⟨n1, n2⟩ := nV k hk
    simp only [tcFp, List.mem_cons, List.mem_append, List.not_mem_nil, or_false, not_or] at hm n2
    rcases hm with hm | hm | hm | hm
    · exact n2.1 hm
    · exact n2.2.1 hm
    · subst hm
      rcases r3 with z | z
      · exact n2.2.2.1 z
      · omega
    · subst hm
      rcases r6 with z | z
      · exact n2.2.2.2 z
      · omega
end
end Go.Proofs.YbulkctquGreatFmt

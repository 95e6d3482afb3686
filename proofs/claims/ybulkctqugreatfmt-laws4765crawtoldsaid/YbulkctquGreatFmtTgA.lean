/-
  The tangle in memory.
-/
import Derived.Test.YbulkctquGreatFmtTgP
import Derived.Test.YbulkctquGreatFmtCompC
namespace Go.Proofs.YbulkctquGreatFmt
open Go.ChangeShapes Go.WideShapes Go.ChangeAt Go.RowKit Go.Ord
set_option linter.unusedVariables false

theorem Gr.setOth {w : World} {d o : Nat} {g : GG} {G : List (List Nat)} {J : List Bool} (h : Gr w d o g G J) {j : Nat} {u : Value} (hj : g.kc j = some u) (v : Value) : Gr (w.setCell ⟨d, j, none⟩ v) d o { g with kc := fun i => if i = j then some v else g.kc i } G J := by
  have hu := Upd.store w d j v
  have nd := h.nd
  simp only [List.nodup_cons] at nd
  obtain ⟨n1, n2, n3, n4⟩ := h.oth j u hj
  have hf : ∀ k ∈ g.foot, k ∉ [d] := fun k hk hm => by simp at hm; subst hm; exact nd.1 hk
  refine ⟨set_other h.cS (.inr n1), set_other h.cJ (.inr n2), set_free h.zS, set_free h.zJ, h.sS.keep hu (fun k hk => hf k (by simp [GG.foot, hk])), h.sJ.keep hu (fun k hk => hf k (by simp [GG.foot, hk])), h.lI, ?_, h.nd, ?_⟩
  · intro i s f r hs hf' hr
    obtain ⟨h3, h4⟩ := h.sI i s f r hs hf' hr
    refine ⟨h3, h4.keep hu (fun k hk => hf k ?_)⟩
    simp only [GG.foot, List.mem_append, List.mem_flatten]
    exact .inr (.inr ⟨f, List.mem_of_getElem? hf', hk⟩)
  · intro i x hx
    by_cases e : i = j
    · subst e
      simp at hx
      subst hx
      exact ⟨n1, n2, set_same n3, set_free n4⟩
    · simp [e] at hx
      obtain ⟨m1, m2, m3, m4⟩ := h.oth i x hx
      exact ⟨m1, m2, set_other m3 (.inr (Ne.symm e)), set_free m4⟩
/-- A row that is only read. -/
def RowV (fV : List Nat) (w : World) (s : SV) (r : List Nat) : Prop := s.n = r.length ∧ s.n ≤ s.c ∧ s.c ≤ 9223372036854775807 ∧ ∀ (j x : Nat), r[j]? = some x → ∃ b, b ∈ fV ∧ s.a = some ⟨b, 0, none⟩ ∧ w.cell? ⟨b, j, none⟩ = some (.int .i64 x)
theorem RowV.keep {fV : List Nat} {w w' : World} {s : SV} {r : List Nat} (h : RowV fV w s r) {S : List Nat} (hu : Upd S w w') (hS : ∀ k ∈ fV, k ∉ S) : RowV fV w' s r := by
  refine ⟨h.1, h.2.1, h.2.2.1, fun j x hx => ?_⟩
  obtain ⟨b, h1, h2, h3⟩ := h.2.2.2 j x hx
  exact ⟨b, h1, h2, hu.cell h3 (hS b h1)⟩
theorem RowV.mono {fV fV' : List Nat} {w : World} {s : SV} {r : List Nat} (h : RowV fV w s r) (hf : ∀ k ∈ fV, k ∈ fV') : RowV fV' w s r :=
  ⟨h.1, h.2.1, h.2.2.1, fun j x hx => by obtain ⟨b, h1, h2, h3⟩ := h.2.2.2 j x hx; exact ⟨b, hf b h1, h2, h3⟩⟩
theorem RowV.has {fV : List Nat} {w : World} {s : SV} {r : List Nat} (h : RowV fV w s r) (hr : 0 < r.length) : ∃ b, b ∈ fV ∧ s.a = some ⟨b, 0, none⟩ ∧ ∀ (j x : Nat), r[j]? = some x → w.cell? ⟨b, j, none⟩ = some (.int .i64 x) := by
  obtain ⟨x0, h0⟩ := has_at r hr
  obtain ⟨b, h1, h2, h3⟩ := h.2.2.2 0 x0 h0
  refine ⟨b, h1, h2, fun j x hx => ?_⟩
  obtain ⟨b', h4, h5, h6⟩ := h.2.2.2 j x hx
  rw [h2] at h5; injection h5 with h5; injection h5 with h5; subst h5
  exact h6
theorem Sl.rowV {w : World} {a : Option Addr} {n c : Nat} {f fV : List Nat} {r : List Nat} (h : Sl w 3 1 a n c f (r.map nI)) (hf : ∀ k ∈ f, k ∈ fV) : RowV fV w ⟨a, n, c⟩ r := by
  have hl := h.len
  refine ⟨by simpa using hl.symm, h.le.1, h.le.2, fun j x hx => ?_⟩
  obtain ⟨b, h1, h2, h3⟩ := h.get (j := j) (v := nI x) (by simp [hx])
  exact ⟨b, hf b (by rw [h2]; simp), h1, h3⟩
/-- The ways, only read. -/
structure WV (fV : List Nat) (bW : Nat) (ws : List (Alt × Alt)) (w : World) : Prop where
  b : bW ∈ fV
  lt : ∀ k ∈ fV, k < w.heap.size
  row : ∀ (c : Nat) (p : Alt × Alt), ws[c]? = some p → ∃ s0 s1 : SV, w.cell? ⟨bW, c * 4, none⟩ = some (.slice s0.a s0.n s0.c) ∧ w.cell? ⟨bW, c * 4 + 1, none⟩ = some (.int .i64 p.1.i) ∧ w.cell? ⟨bW, c * 4 + 2, none⟩ = some (.slice s1.a s1.n s1.c) ∧ w.cell? ⟨bW, c * 4 + 3, none⟩ = some (.int .i64 p.2.i) ∧ RowV fV w s0 p.1.f ∧ RowV fV w s1 p.2.f
theorem WV.keep {fV : List Nat} {bW : Nat} {ws : List (Alt × Alt)} {w w' : World} (h : WV fV bW ws w) {S : List Nat} (hu : Upd S w w') (hS : ∀ k ∈ fV, k ∉ S) : WV fV bW ws w' := by
  refine ⟨h.b, fun k hk => Nat.lt_of_lt_of_le (h.lt k hk) hu.size, fun c p hp => ?_⟩
  obtain ⟨s0, s1, h1, h2, h3, h4, h5, h6⟩ := h.row c p hp
  have hb := hS bW h.b
  exact ⟨s0, s1, hu.cell h1 hb, hu.cell h2 hb, hu.cell h3 hb, hu.cell h4 hb, h5.keep hu hS, h6.keep hu hS⟩
theorem WV.at {fV : List Nat} {bW : Nat} {ws : List (Alt × Alt)} {w : World} (h : WV fV bW ws w) {c v : Nat} (hc : c < ws.length) (hv : v ≤ 1) : ∃ s : SV, w.cell? ⟨bW, c * 4 + v * 2, none⟩ = some (.slice s.a s.n s.c) ∧ w.cell? ⟨bW, c * 4 + v * 2 + 1, none⟩ = some (.int .i64 (altOf ws c v).i) ∧ RowV fV w s (altOf ws c v).f := by
  obtain ⟨p, hp⟩ := has_at ws hc
  obtain ⟨s0, s1, h1, h2, h3, h4, h5, h6⟩ := h.row c p hp
  by_cases e : v = 0
  · subst e
    have ea : altOf ws c 0 = p.1 := by simp [altOf, hp]
    rw [ea]
    exact ⟨s0, h1, h2, h5⟩
  · have e1 : v = 1 := by omega
    subst e1
    have ea : altOf ws c 1 = p.2 := by simp [altOf, hp]
    rw [ea]
    exact ⟨s1, h3, h4, h6⟩
def tanK (bW nW cW bC cC bE n : Nat) (st : Int) : Nat → Option Value := fun j => if j = 2 then some (.slice (some ⟨bW, 0, none⟩) nW cW) else if j = 3 then some (.slice (some ⟨bC, 0, none⟩) nW cC) else if j = 4 then some (.slice (some ⟨bE, 0, none⟩) n n) else if j = 5 then some (.int .i64 st) else none
def tanFp (d : Nat) (g : GG) (bC bE : Nat) : List Nat := d :: (g.foot ++ [bC, bE])
/-- The tangle at block d. -/
structure TG (d bW cW bC cC bE : Nat) (fV : List Nat) (g : GG) (G : List (List Nat)) (J : List Bool) (ws : List (Alt × Alt)) (ch se : List Int) (st : Int) (w : World) : Prop where
  gr : Gr w d 0 g G J
  kc : g.kc = tanK bW ws.length cW bC cC bE G.length st
  wv : WV fV bW ws w
  sc : Sl w 3 1 (some ⟨bC, 0, none⟩) ws.length cC [bC] (ch.map iI)
  sn : Sl w 3 1 (some ⟨bE, 0, none⟩) G.length G.length [bE] (se.map iI)
  nd : (tanFp d g bC bE).Nodup
  ap : ∀ k ∈ fV, k ∉ tanFp d g bC bE
section
variable {d bW cW bC cC bE : Nat} {fV : List Nat} {g : GG} {G : List (List Nat)} {J : List Bool} {ws : List (Alt × Alt)} {ch se : List Int} {st : Int} {w w' : World}
theorem TG.lt (h : TG d bW cW bC cC bE fV g G J ws ch se st w) : ∀ k ∈ tanFp d g bC bE, k < w.heap.size := by
  intro k hk
  simp only [tanFp, List.mem_cons, List.mem_append, List.not_mem_nil, or_false] at hk
  rcases hk with rfl | hk | rfl | rfl
  · exact h.gr.lt
  · exact h.gr.footLt k hk
  · exact h.sc.lt _ (by simp)
  · exact h.sn.lt _ (by simp)
theorem TG.apart (h : TG d bW cW bC cC bE fV g G J ws ch se st w) : d ∉ g.foot ∧ bC ∉ g.foot ∧ bE ∉ g.foot ∧ bC ≠ d ∧ bE ≠ d ∧ bC ≠ bE := by
  have nd := h.nd
  simp only [tanFp, List.nodup_cons, List.nodup_append, List.mem_append, List.mem_cons, List.not_mem_nil, or_false, not_or] at nd
  exact ⟨nd.1.1, fun hm => nd.2.2.2 bC hm bC (.inl rfl) rfl, fun hm => nd.2.2.2 bE hm bE (.inr rfl) rfl, fun e => nd.1.2.1 e.symm, fun e => nd.1.2.2 e.symm, nd.2.2.1.1⟩
theorem TG.keep (h : TG d bW cW bC cC bE fV g G J ws ch se st w) {S : List Nat} (hu : Upd S w w') (h1 : ∀ k ∈ tanFp d g bC bE, k ∉ S) (h2 : ∀ k ∈ fV, k ∉ S) : TG d bW cW bC cC bE fV g G J ws ch se st w' :=
  ⟨h.gr.keep hu (h1 d (by simp [tanFp])) (fun k hk => h1 k (by simp [tanFp, hk])), h.kc, h.wv.keep hu h2, h.sc.keep hu (fun k hk => by simp at hk; subst hk; exact h1 _ (by simp [tanFp])), h.sn.keep hu (fun k hk => by simp at hk; subst hk; exact h1 _ (by simp [tanFp])), h.nd, h.ap⟩
theorem TG.grow (h : TG d bW cW bC cC bE fV g G J ws ch se st w) (hu : Upd [] w w') : TG d bW cW bC cC bE fV g G J ws ch se st w' := h.keep hu (by simp) (by simp)
theorem TG.cell (h : TG d bW cW bC cC bE fV g G J ws ch se st w) {j : Nat} {v : Value} (hj : tanK bW ws.length cW bC cC bE G.length st j = some v) : w.cell? ⟨d, j, none⟩ = some v ∧ w.frozen? ⟨d, j, none⟩ = false := by
  rw [← h.kc] at hj
  exact ⟨(h.gr.oth j v hj).2.2.1, (h.gr.oth j v hj).2.2.2⟩
theorem TG.setSt (h : TG d bW cW bC cC bE fV g G J ws ch se st w) (v : Int) : ∃ g', g'.foot = g.foot ∧ TG d bW cW bC cC bE fV g' G J ws ch se v (w.setCell ⟨d, 5, none⟩ (.int .i64 v)) := by
  have hu := Upd.store w d 5 (.int .i64 v)
  obtain ⟨a1, a2, a3, a4, a5, a6⟩ := h.apart
  have hK : g.kc 5 = some (.int .i64 st) := by rw [h.kc]; rfl
  have gr := h.gr.setOth hK (.int .i64 v)
  refine ⟨{ g with kc := fun i => if i = 5 then some (.int .i64 v) else g.kc i }, rfl, ⟨gr, ?_, h.wv.keep hu (fun k hk hm => h.ap k hk (by simp at hm; simp [tanFp, hm])), h.sc.keep hu (by simpa using a4), h.sn.keep hu (by simpa using a5), h.nd, h.ap⟩⟩
  show (fun i => if i = 5 then some (Value.int .i64 v) else g.kc i) = _
  rw [h.kc]
  funext j
  simp only [tanK]
  by_cases e : j = 5
  · subst e; simp
  · simp [e]
theorem TG.setSe (h : TG d bW cW bC cC bE fV g G J ws ch se st w) (i : Nat) (v : Int) : TG d bW cW bC cC bE fV g G J ws ch (se.set i v) st (w.setCell ⟨bE, i, none⟩ (.int .i64 v)) := by
  have hu := Upd.store w bE i (.int .i64 v)
  obtain ⟨a1, a2, a3, a4, a5, a6⟩ := h.apart
  have s := h.sn.store i (iI v)
  rw [← List.map_set] at s
  exact ⟨h.gr.keep hu (by simpa using Ne.symm a5) (fun k hk hm => by simp at hm; subst hm; exact a3 hk), h.kc, h.wv.keep hu (fun k hk hm => h.ap k hk (by simp at hm; simp [tanFp, hm])), h.sc.keep hu (by simpa using a6), s, h.nd, h.ap⟩
theorem TG.setCh (h : TG d bW cW bC cC bE fV g G J ws ch se st w) (i : Nat) (v : Int) : TG d bW cW bC cC bE fV g G J ws (ch.set i v) se st (w.setCell ⟨bC, i, none⟩ (.int .i64 v)) := by
  have hu := Upd.store w bC i (.int .i64 v)
  obtain ⟨a1, a2, a3, a4, a5, a6⟩ := h.apart
  have s := h.sc.store i (iI v)
  rw [← List.map_set] at s
  exact ⟨h.gr.keep hu (by simpa using Ne.symm a4) (fun k hk hm => by simp at hm; subst hm; exact a2 hk), h.kc, h.wv.keep hu (fun k hk hm => h.ap k hk (by simp at hm; simp [tanFp, hm])), s, h.sn.keep hu (by simpa using Ne.symm a6), h.nd, h.ap⟩
theorem TG.arc (h : TG d bW cW bC cC bE fV g G J ws ch se st w) {g' : GG} {G' : List (List Nat)} (h1 : Gr w' d 0 g' G' J) (h2 : Grew d w w' g g') (hl : G'.length = G.length) : TG d bW cW bC cC bE fV g' G' J ws ch se st w' ∧ Upd (tanFp d g bC bE) w w' ∧ ∀ k ∈ tanFp d g' bC bE, k ∈ tanFp d g bC bE ∨ w.heap.size ≤ k := by
  obtain ⟨a1, a2, a3, a4, a5, a6⟩ := h.apart
  have lt := h.lt
  have fo : ∀ k ∈ g'.foot, k ∈ g.foot ∨ w.heap.size ≤ k := h2.foot
  have nC : bC ∉ g'.foot := fun hm => by
    rcases fo _ hm with z | z
    · exact a2 z
    · have := lt bC (by simp [tanFp]); omega
  have nE : bE ∉ g'.foot := fun hm => by
    rcases fo _ hm with z | z
    · exact a3 z
    · have := lt bE (by simp [tanFp]); omega
  have nd := h1.nd
  simp only [List.nodup_cons] at nd
  refine ⟨⟨h1, by rw [h2.kc, hl]; exact h.kc, h.wv.keep h2.upd (fun k hk hm => h.ap k hk (by simp only [List.mem_cons] at hm; simp only [tanFp, List.mem_cons, List.mem_append]; exact hm.imp id .inl)), h.sc.keep h2.upd (fun k hk hm => ?_), ?_, ?_, ?_⟩, h2.upd.mono (fun k hk => .inl (by simp only [List.mem_cons] at hk; simp only [tanFp, List.mem_cons, List.mem_append]; exact hk.imp id .inl)), ?_⟩
  · simp only [List.mem_singleton] at hk
    subst hk
    simp only [List.mem_cons] at hm
    exact hm.elim a4 a2
  · rw [hl]
    refine h.sn.keep h2.upd (fun k hk hm => ?_)
    simp only [List.mem_singleton] at hk
    subst hk
    simp only [List.mem_cons] at hm
    exact hm.elim a5 a3
  · simp only [tanFp, List.nodup_cons, List.nodup_append, List.mem_append, List.mem_cons, List.not_mem_nil, or_false, not_or]
    refine ⟨⟨nd.1, fun e => a4 e.symm, fun e => a5 e.symm⟩, nd.2, ⟨a6, by simp⟩, ?_⟩
    intro x hx y hy e
    subst e
    rcases hy with rfl | rfl
    · exact nC hx
    · exact nE hx
  · intro k hk hm
    simp only [tanFp, List.mem_cons, List.mem_append, List.not_mem_nil, or_false] at hm
    have o := h.ap k hk
    simp only [tanFp, List.mem_cons, List.mem_append, List.not_mem_nil, or_false, not_or] at o
    rcases hm with hm | hm | hm
    · exact o.1 hm
    · rcases fo k hm with z | z
      · exact o.2.1 z
      · have := h.wv.lt k hk; omega
    · exact hm.elim o.2.2.1 o.2.2.2
  · intro k hk
    simp only [tanFp, List.mem_cons, List.mem_append] at hk ⊢
    rcases hk with hk | hk | hk
    · exact .inl (.inl hk)
    · exact (fo k hk).imp (fun z => .inr (.inl z)) id
    · exact .inl (.inr (.inr hk))
end
/-- A row of a graph loses its last arc. -/
theorem Gr.cut {w : World} {d o : Nat} {g : GG} {G : List (List Nat)} {J : List Bool} (h : Gr w d o g G J) {t x : Nat} {r : List Nat} (hr : G[t]? = some (r ++ [x])) {gS : Nat} (eS : g.aS = some ⟨gS, 0, none⟩) (fS : g.fS = [gS]) {s : SV} (hs : g.vs[t]? = some s) :
    Gr (w.setCell ⟨gS, t, none⟩ (.slice s.a r.length s.c)) d o { g with vs := g.vs.set t ⟨s.a, r.length, s.c⟩ } (G.set t r) J := by
  have hu := Upd.store w gS t (.slice s.a r.length s.c)
  have nd := h.nd
  simp only [GG.foot, List.nodup_cons, List.nodup_append, List.mem_append, not_or, fS] at nd
  have ndS : d ≠ gS := fun e => nd.1.1 (by simp [e])
  have nJ : ∀ k ∈ g.fJ, k ∉ [gS] := fun k hk hm => by simp at hm; subst hm; exact nd.2.2.2 _ (by simp) _ (.inl hk) rfl
  have nI' : ∀ k ∈ g.fI.flatten, k ∉ [gS] := fun k hk hm => by simp at hm; subst hm; exact nd.2.2.2 _ (by simp) _ (.inr hk) rfl
  have htl : t < G.length := (List.getElem?_eq_some_iff.mp hr).1
  have hvl : t < g.vs.length := (List.getElem?_eq_some_iff.mp hs).1
  refine ⟨by simpa using hu.cell h.cS (by simpa using ndS), by simpa using hu.cell h.cJ (by simpa using ndS), set_free h.zS, set_free h.zJ, ?_, ?_, by simpa using h.lI, ?_, h.nd, fun j v hj => ⟨(h.oth j v hj).1, (h.oth j v hj).2.1, hu.cell (h.oth j v hj).2.2.1 (by simpa using ndS), set_free (h.oth j v hj).2.2.2⟩⟩
  · have s1 := h.sS
    rw [eS] at s1
    have s2 := s1.store t (.slice s.a r.length s.c)
    rw [List.map_set]
    simpa [eS, SV.val] using s2
  · simpa using h.sJ.keep hu nJ
  · intro i s' f' r' hs' hf' hr'
    simp only [] at hs' hf'
    by_cases hi : t = i
    · subst hi
      rw [List.getElem?_set_self hvl] at hs'
      rw [List.getElem?_set_self htl] at hr'
      injection hs' with hs'
      injection hr' with hr'
      subst hs' hr'
      refine ⟨rfl, ?_⟩
      obtain ⟨h1, h2⟩ := h.sI t s f' (r ++ [x]) hs hf' hr
      have h3 := h2.keep hu (fun k hk => nI' k (List.mem_flatten.mpr ⟨f', List.mem_of_getElem? hf', hk⟩))
      rw [List.map_append, h1] at h3
      simp only [List.length_append, List.length_singleton] at h3
      exact sl_cut h3
    · rw [List.getElem?_set_ne hi] at hs' hr'
      obtain ⟨h1, h2⟩ := h.sI i s' f' r' hs' hf' hr'
      exact ⟨h1, h2.keep hu (fun k hk => nI' k (List.mem_flatten.mpr ⟨f', List.mem_of_getElem? hf', hk⟩))⟩
end Go.Proofs.YbulkctquGreatFmt

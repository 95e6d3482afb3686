/-
  The objects and the sources of a polygraph, as they grow.
-/
import Derived.Test.YbulkctquGreatFmtNspQ
namespace Go.Proofs.YbulkctquGreatFmt
open Go.ChangeShapes Go.WideShapes Go.ChangeAt Go.RowKit Go.Ord
set_option linter.unusedVariables false

/-- One more object, all nil; its row has been laid by an append. -/
theorem Objs.grow {w w1 : World} {og : OG} {os : List Ob} (h : Objs w og os) {g c : Nat} (s1 : Sl w1 139 3 (some ⟨g, 0, none⟩) (os.length + 1) c [g] (og.vs.map SV.val ++ [.slice none 0 0, .slice none 0 0, .slice none 0 0])) (U : Upd og.fO w w1) (F : g ∈ og.fO ∨ w.heap.size ≤ g) :
    ∃ og', Objs w1 og' (os ++ [⟨[], [], []⟩]) ∧ og'.a = some ⟨g, 0, none⟩ ∧ og'.c = c ∧ ∀ k ∈ og'.foot, k ∈ og.foot ∨ w.heap.size ≤ k := by
  have nd := h.nd
  simp only [OG.foot, List.nodup_append] at nd
  have r1 := (h.rows.keep U (fun k hk hm => nd.2.2 k hm k hk rfl)).more 3
  refine ⟨⟨some ⟨g, 0, none⟩, c, [g], og.vs ++ List.replicate 3 ⟨none, 0, 0⟩, og.fI ++ List.replicate 3 []⟩, ⟨?_, ?_, ?_⟩, rfl, rfl, ?_⟩
  · simpa [SV.val, List.replicate] using s1
  · simpa [Ob.rows, List.replicate] using r1
  · simp only [OG.foot, List.flatten_append, List.flatten_replicate_nil, List.append_nil, List.singleton_append, List.nodup_cons]
    refine ⟨fun hm => ?_, nd.2.1⟩
    rcases F with z | z
    · exact nd.2.2 g z g hm rfl
    · have := h.rows.lt g hm; omega
  · intro k hk
    simp only [OG.foot, List.flatten_append, List.flatten_replicate_nil, List.append_nil, List.singleton_append, List.mem_cons] at hk
    rcases hk with rfl | hk
    · rcases F with z | z
      · exact .inl (by simp [OG.foot, z])
      · exact .inr z
    · exact .inl (by simp only [OG.foot, List.mem_append]; exact .inr hk)
theorem flatMap_set {α β : Type} (f : α → List β) (n : Nat) (hf : ∀ a, (f a).length = n) : ∀ (l : List α) (x j : Nat) (a a' : α) (v : β), l[x]? = some a → j < n → f a' = (f a).set j v → (l.flatMap f).set (x * n + j) v = (l.set x a').flatMap f
  | [], x, j, a, a', v, h, _, _ => by simp at h
  | b :: l, 0, j, a, a', v, h, hj, e => by
    simp at h; subst h
    rw [List.flatMap_cons, List.set_cons_zero, List.flatMap_cons, e, Nat.zero_mul, Nat.zero_add, List.set_append_left _ _ (by rw [hf]; exact hj)]
  | b :: l, x + 1, j, a, a', v, h, hj, e => by
    have ih := flatMap_set f n hf l x j a a' v (by simpa using h) hj e
    rw [List.flatMap_cons, List.set_cons_succ, List.flatMap_cons, ← ih, List.set_append_right _ _ (by rw [hf, Nat.succ_mul]; omega), hf]
    congr 2
    rw [Nat.succ_mul]; omega
def Ob.put (o : Ob) (j y : Nat) : Ob := match j with | 0 => { o with wr := o.wr ++ [y] } | 1 => { o with ini := o.ini ++ [y] } | _ => { o with rk := o.rk ++ [y] }
theorem Ob.put_rows (o : Ob) (j y : Nat) (hj : j < 3) {r : List Nat} (hr : o.rows[j]? = some r) : (o.put j y).rows = o.rows.set j (r ++ [y]) := by
  match j, hj with
  | 0, _ => simp [Ob.rows] at hr; subst hr; rfl
  | 1, _ => simp [Ob.rows] at hr; subst hr; rfl
  | 2, _ => simp [Ob.rows] at hr; subst hr; rfl
/-- A row of an object, and how it takes one number more. -/
theorem Objs.row {w : World} {og : OG} {os : List Ob} (h : Objs w og os) {x : Nat} {o : Ob} (hx : os[x]? = some o) (j : Nat) (hj : j < 3) {r : List Nat} (hr : o.rows[j]? = some r) :
    ∃ (bO : Nat) (s : SV) (f : List Nat), og.a = some ⟨bO, 0, none⟩ ∧ w.cell? ⟨bO, x * 3 + j, none⟩ = some (.slice s.a s.n s.c) ∧ w.frozen? ⟨bO, x * 3 + j, none⟩ = false ∧ s.n = r.length ∧ Sl w 3 1 s.a s.n s.c f (r.map nI) ∧ bO ∉ f ∧ (∀ k ∈ f, k ∈ og.foot) ∧ bO ∈ og.foot ∧
      ∀ (g c y : Nat) (w1 : World), Sl w1 3 1 (some ⟨g, 0, none⟩) (s.n + 1) c [g] (r.map nI ++ [nI y]) → Upd f w w1 → (g ∈ f ∨ w.heap.size ≤ g) →
        ∃ og', Objs (w1.setCell ⟨bO, x * 3 + j, none⟩ (.slice (some ⟨g, 0, none⟩) (s.n + 1) c)) og' (os.set x (o.put j y)) ∧ og'.a = og.a ∧ og'.c = og.c ∧ Upd og.foot w (w1.setCell ⟨bO, x * 3 + j, none⟩ (.slice (some ⟨g, 0, none⟩) (s.n + 1) c)) ∧ ∀ k ∈ og'.foot, k ∈ og.foot ∨ w.heap.size ≤ k := by
  have hl := (List.getElem?_eq_some_iff.mp hx).1
  have hi : (os.flatMap Ob.rows)[x * 3 + j]? = some r := (flat3 Ob.rows 3 (fun _ => rfl) os x j o hx hj).trans hr
  obtain ⟨s, f, a1, a2, a3, a4, a5⟩ := h.rows.at hi
  obtain ⟨bO, e1, e2, e3, e4, e5⟩ := h.top.has (by omega)
  have nd := h.nd
  simp only [OG.foot, List.nodup_append] at nd
  have hbf : bO ∉ f := fun hm => nd.2.2 bO (by rw [e2]; simp) bO (a5 _ hm) rfl
  refine ⟨bO, s, f, e1, (e4 (x * 3 + j) (by omega)).trans (by simp [a1, SV.val]), e5 _, a3, a4, hbf, fun k hk => by simp only [OG.foot, List.mem_append]; exact .inr (a5 k hk), by simp [OG.foot, e2], ?_⟩
  intro g c y w1 s1 U F
  have r2 := h.rows.put hi a1 a2 s1 U F
  have hbg : g ≠ bO := by
    rintro rfl
    rcases F with z | z
    · exact hbf z
    · omega
  have hst := Upd.store w1 bO (x * 3 + j) (.slice (some ⟨g, 0, none⟩) (s.n + 1) c)
  have hbn : ∀ k ∈ (og.fI.set (x * 3 + j) [g]).flatten, k ≠ bO := by
    intro k hk e
    subst e
    rcases mem_flat_set hk with h5 | h5
    · simp at h5; exact hbg h5.symm
    · exact nd.2.2 k (by rw [e2]; simp) k h5 rfl
  have t0 := h.top
  rw [e1] at t0
  have t2 := (t0.keep U (fun k hk hm => by rw [e2] at hk; simp at hk; subst hk; exact hbf hm)).store (x * 3 + j) (.slice (some ⟨g, 0, none⟩) (s.n + 1) c)
  have e6 : (og.vs.map SV.val).set (x * 3 + j) (.slice (some ⟨g, 0, none⟩) (s.n + 1) c) = (og.vs.set (x * 3 + j) ⟨some ⟨g, 0, none⟩, s.n + 1, c⟩).map SV.val := by rw [List.map_set]; rfl
  rw [e6] at t2
  have e7 := flatMap_set Ob.rows 3 (fun _ => rfl) os x j o (o.put j y) (r ++ [y]) hx hj (Ob.put_rows o j y hj hr)
  refine ⟨⟨og.a, og.c, og.fO, og.vs.set (x * 3 + j) ⟨some ⟨g, 0, none⟩, s.n + 1, c⟩, og.fI.set (x * 3 + j) [g]⟩, ⟨?_, ?_, ?_⟩, rfl, rfl, ?_, ?_⟩
  · rw [e1]
    simpa using t2
  · rw [← e7]
    exact r2.keep hst (fun k hk hm => hbn k hk (by simpa using hm))
  · simp only [OG.foot, e2, List.singleton_append, List.nodup_cons]
    exact ⟨fun hm => hbn bO hm rfl, r2.nd⟩
  · have U' : Upd og.foot w w1 := U.mono (fun k hk => .inl (by simp only [OG.foot, List.mem_append]; exact .inr (a5 k hk)))
    exact U'.trans hst (fun k hk => .inl (by simp at hk; rw [hk]; simp [OG.foot, e2]))
  · intro k hk
    simp only [OG.foot, List.mem_append] at hk
    rcases hk with hk | hk
    · exact .inl (by simp [OG.foot, hk])
    · rcases mem_flat_set hk with h5 | h5
      · simp at h5; subst h5
        rcases F with h6 | h6
        · exact .inl (by simp only [OG.foot, List.mem_append]; exact .inr (a5 _ h6))
        · exact .inr h6
      · exact .inl (by simp only [OG.foot, List.mem_append]; exact .inr h5)
/-- One more source, read by none yet. -/
theorem Srcs.grow {w w1 : World} {sg : SG} {ss : List Sr} (h : Srcs w sg ss) {s : Sr} (hs : s.rd = []) {g c : Nat} (s1 : Sl w1 142 4 (some ⟨g, 0, none⟩) (ss.length + 1) c [g] ((ss.zip sg.vs).flatMap srCells ++ [nI s.ob, nI s.wr, nI s.rk, .slice none 0 0])) (U : Upd sg.fO w w1) (F : g ∈ sg.fO ∨ w.heap.size ≤ g) :
    ∃ sg', Srcs w1 sg' (ss ++ [s]) ∧ sg'.a = some ⟨g, 0, none⟩ ∧ sg'.c = c ∧ ∀ k ∈ sg'.foot, k ∈ sg.foot ∨ w.heap.size ≤ k := by
  have nd := h.nd
  simp only [SG.foot, List.nodup_append] at nd
  have r1 := (h.rows.keep U (fun k hk hm => nd.2.2 k hm k hk rfl)).more 1
  have lv : ss.length = sg.vs.length := by have := h.rows.lV; simpa using this.symm
  refine ⟨⟨some ⟨g, 0, none⟩, c, [g], sg.vs ++ List.replicate 1 ⟨none, 0, 0⟩, sg.fI ++ List.replicate 1 []⟩, ⟨?_, ?_, ?_⟩, rfl, rfl, ?_⟩
  · simp only [List.length_append, List.length_singleton, List.replicate]
    rw [List.zip_append lv, List.flatMap_append]
    simpa [srCells, SV.val] using s1
  · simpa [hs, List.replicate] using r1
  · simp only [SG.foot, List.flatten_append, List.flatten_replicate_nil, List.append_nil, List.singleton_append, List.nodup_cons]
    refine ⟨fun hm => ?_, nd.2.1⟩
    rcases F with z | z
    · exact nd.2.2 g z g hm rfl
    · have := h.rows.lt g hm; omega
  · intro k hk
    simp only [SG.foot, List.flatten_append, List.flatten_replicate_nil, List.append_nil, List.singleton_append, List.mem_cons] at hk
    rcases hk with rfl | hk
    · rcases F with z | z
      · exact .inl (by simp [SG.foot, z])
      · exact .inr z
    · exact .inl (by simp only [SG.foot, List.mem_append]; exact .inr hk)
theorem zip_set {α β : Type} : ∀ (l : List α) (r : List β) (k : Nat) (a : α) (b : β), (l.zip r).set k (a, b) = (l.set k a).zip (r.set k b)
  | [], r, k, a, b => by simp
  | x :: l, [], k, a, b => by simp
  | x :: l, y :: r, 0, a, b => by simp
  | x :: l, y :: r, k + 1, a, b => by simp [zip_set l r k a b]
/-- A source's readers, and how they take one more. -/
theorem Srcs.row {w : World} {sg : SG} {ss : List Sr} (h : Srcs w sg ss) {k : Nat} {s : Sr} (hk : ss[k]? = some s) :
    ∃ (bS : Nat) (v : SV) (f : List Nat), sg.a = some ⟨bS, 0, none⟩ ∧ w.cell? ⟨bS, k * 4 + 1, none⟩ = some (.int .i64 s.wr) ∧ w.cell? ⟨bS, k * 4 + 3, none⟩ = some (.slice v.a v.n v.c) ∧ w.frozen? ⟨bS, k * 4 + 3, none⟩ = false ∧ v.n = s.rd.length ∧ Sl w 3 1 v.a v.n v.c f (s.rd.map nI) ∧ bS ∉ f ∧ (∀ j ∈ f, j ∈ sg.foot) ∧ bS ∈ sg.foot ∧
      ∀ (g c y : Nat) (w1 : World), Sl w1 3 1 (some ⟨g, 0, none⟩) (v.n + 1) c [g] (s.rd.map nI ++ [nI y]) → Upd f w w1 → (g ∈ f ∨ w.heap.size ≤ g) →
        ∃ sg', Srcs (w1.setCell ⟨bS, k * 4 + 3, none⟩ (.slice (some ⟨g, 0, none⟩) (v.n + 1) c)) sg' (ss.set k { s with rd := s.rd ++ [y] }) ∧ sg'.a = sg.a ∧ sg'.c = sg.c ∧ Upd sg.foot w (w1.setCell ⟨bS, k * 4 + 3, none⟩ (.slice (some ⟨g, 0, none⟩) (v.n + 1) c)) ∧ ∀ j ∈ sg'.foot, j ∈ sg.foot ∨ w.heap.size ≤ j := by
  have hl := (List.getElem?_eq_some_iff.mp hk).1
  have hi : (ss.map Sr.rd)[k]? = some s.rd := by simp [hk]
  obtain ⟨v, f, a1, a2, a3, a4, a5⟩ := h.rows.at hi
  obtain ⟨bS, e1, e2, e3, e4, e5⟩ := h.top.has (by omega)
  have hz : (ss.zip sg.vs)[k]? = some (s, v) := by rw [List.getElem?_zip_eq_some]; exact ⟨hk, a1⟩
  have q := fun j (hj : j < 4) => flat3 srCells 4 (fun _ => rfl) (ss.zip sg.vs) k j (s, v) hz hj
  have nd := h.nd
  simp only [SG.foot, List.nodup_append] at nd
  have hbf : bS ∉ f := fun hm => nd.2.2 bS (by rw [e2]; simp) bS (a5 _ hm) rfl
  refine ⟨bS, v, f, e1, (e4 (k * 4 + 1) (by omega)).trans (q 1 (by omega)), (e4 (k * 4 + 3) (by omega)).trans (q 3 (by omega)), e5 _, a3, a4, hbf, fun j hj => by simp only [SG.foot, List.mem_append]; exact .inr (a5 j hj), by simp [SG.foot, e2], ?_⟩
  intro g c y w1 s1 U F
  have r2 := h.rows.put hi a1 a2 s1 U F
  have hbg : g ≠ bS := by
    rintro rfl
    rcases F with z | z
    · exact hbf z
    · omega
  have hst := Upd.store w1 bS (k * 4 + 3) (.slice (some ⟨g, 0, none⟩) (v.n + 1) c)
  have hbn : ∀ j ∈ (sg.fI.set k [g]).flatten, j ≠ bS := by
    intro j hj e
    subst e
    rcases mem_flat_set hj with h5 | h5
    · simp at h5; exact hbg h5.symm
    · exact nd.2.2 j (by rw [e2]; simp) j h5 rfl
  have t0 := h.top
  rw [e1] at t0
  have t2 := (t0.keep U (fun j hj hm => by rw [e2] at hj; simp at hj; subst hj; exact hbf hm)).store (k * 4 + 3) (.slice (some ⟨g, 0, none⟩) (v.n + 1) c)
  have e7 := flatMap_set srCells 4 (fun _ => rfl) (ss.zip sg.vs) k 3 (s, v) ({ s with rd := s.rd ++ [y] }, ⟨some ⟨g, 0, none⟩, v.n + 1, c⟩) (.slice (some ⟨g, 0, none⟩) (v.n + 1) c) hz (by omega) rfl
  rw [e7, zip_set] at t2
  refine ⟨⟨sg.a, sg.c, sg.fO, sg.vs.set k ⟨some ⟨g, 0, none⟩, v.n + 1, c⟩, sg.fI.set k [g]⟩, ⟨?_, ?_, ?_⟩, rfl, rfl, ?_, ?_⟩
  · rw [e1]
    simpa using t2
  · rw [List.map_set]
    exact r2.keep hst (fun j hj hm => hbn j hj (by simpa using hm))
  · simp only [SG.foot, e2, List.singleton_append, List.nodup_cons]
    exact ⟨fun hm => hbn bS hm rfl, r2.nd⟩
  · have U' : Upd sg.foot w w1 := U.mono (fun j hj => .inl (by simp only [SG.foot, List.mem_append]; exact .inr (a5 j hj)))
    exact U'.trans hst (fun j hj => .inl (by simp at hj; rw [hj]; simp [SG.foot, e2]))
  · intro j hj
    simp only [SG.foot, List.mem_append] at hj
    rcases hj with hj | hj
    · exact .inl (by simp [SG.foot, hj])
    · rcases mem_flat_set hj with h5 | h5
      · simp at h5; subst h5
        rcases F with h6 | h6
        · exact .inl (by simp only [SG.foot, List.mem_append]; exact .inr (a5 _ h6))
        · exact .inr h6
      · exact .inl (by simp only [SG.foot, List.mem_append]; exact .inr h5)
end Go.Proofs.YbulkctquGreatFmt

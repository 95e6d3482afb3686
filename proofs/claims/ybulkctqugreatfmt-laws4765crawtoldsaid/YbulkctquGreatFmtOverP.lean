/-
  precedeOverwriters, plainly.
-/
import Derived.Test.YbulkctquGreatFmtPcs
import Derived.Test.YbulkctquGreatFmtInit2
import Derived.Test.YbulkctquGreatFmtOrdP
namespace Go.Proofs.YbulkctquGreatFmt
open Go.ChangeShapes Go.WideShapes Go.ChangeAt Go.RowKit Go.Ord
set_option linter.unusedVariables false

def baseAt (fa : List Int) (k : Nat) : List Nat := match fa[k]? with | some i => if 0 ≤ i then [i.toNat] else [] | none => []
def good (ss : List Sr) (os : List Ob) (k y : Nat) : Prop := ∃ s o, ss[k]? = some s ∧ os[s.ob]? = some o ∧ y ∈ o.wr ∧ ∃ (k' : Nat) (s' : Sr), ss[k']? = some s' ∧ s'.wr = s.wr ∧ y ∈ s'.rd
structure OW (ss : List Sr) (os : List Ob) (fa : List Int) (u : Nat) (P : Nat → Prop) (ows : List (List Nat)) : Prop where
  len : ows.length = ss.length
  row : ∀ (k : Nat) (row : List Nat), ows[k]? = some row → ∃ ex, row = baseAt fa k ++ ex ∧ ex.Nodup ∧ (∀ y ∈ ex, y ≤ u ∧ good ss os k y) ∧ (u ∈ ex → P k)
theorem nodup_le {u : Nat} {l : List Nat} (h1 : l.Nodup) (h2 : ∀ y ∈ l, y < u) : l.length ≤ u := nodup_len u l h1 h2
theorem OW.short {ss : List Sr} {os : List Ob} {fa : List Int} {u : Nat} {P : Nat → Prop} {ows : List (List Nat)} (h : OW ss os fa u P ows) {k : Nat} {row : List Nat} (hr : ows[k]? = some row) : row.length ≤ u + 2 := by
  obtain ⟨ex, rfl, h1, h2, _⟩ := h.row k row hr
  have h3 := nodup_le h1 (u := u + 1) (fun y hy => by have := (h2 y hy).1; omega)
  have h4 : (baseAt fa k).length ≤ 1 := by
    unfold baseAt
    split
    · split <;> simp
    · simp
  simp only [List.length_append]; omega
theorem OW.add {ss : List Sr} {os : List Ob} {fa : List Int} {u : Nat} {P : Nat → Prop} {ows : List (List Nat)} (h : OW ss os fa u P ows) {k : Nat} {row : List Nat} (hr : ows[k]? = some row) (hP : ¬ P k) (hg : good ss os k u) {P' : Nat → Prop} (h1 : ∀ j, P j → P' j) (h2 : P' k) : OW ss os fa u P' (ows.set k (row ++ [u])) := by
  refine ⟨by simp [h.len], fun j r hj => ?_⟩
  by_cases e : k = j
  · subst e
    rw [List.getElem?_set_self (List.getElem?_eq_some_iff.mp hr).1] at hj
    injection hj with hj
    subst hj
    obtain ⟨ex, rfl, g1, g2, g3⟩ := h.row k row hr
    refine ⟨ex ++ [u], by simp, ?_, ?_, fun _ => h2⟩
    · rw [List.nodup_append]
      refine ⟨g1, by simp, fun a ha b hb => ?_⟩
      simp at hb
      subst hb
      intro z
      subst z
      exact hP (g3 ha)
    · intro y hy
      rcases List.mem_append.mp hy with hy | hy
      · exact g2 y hy
      · simp at hy; subst hy; exact ⟨Nat.le_refl _, hg⟩
  · rw [List.getElem?_set_ne e] at hj
    obtain ⟨ex, rfl, g1, g2, g3⟩ := h.row j r hj
    exact ⟨ex, rfl, g1, g2, fun z => h1 _ (g3 z)⟩
theorem OW.mono {ss : List Sr} {os : List Ob} {fa : List Int} {u : Nat} {P P' : Nat → Prop} {ows : List (List Nat)} (h : OW ss os fa u P ows) (h1 : ∀ j, P j → P' j) : OW ss os fa u P' ows :=
  ⟨h.len, fun k r hk => by obtain ⟨ex, a, b, c, d⟩ := h.row k r hk; exact ⟨ex, a, b, c, fun z => h1 _ (d z)⟩⟩
theorem OW.next {ss : List Sr} {os : List Ob} {fa : List Int} {u : Nat} {P : Nat → Prop} {ows : List (List Nat)} (h : OW ss os fa u P ows) : OW ss os fa (u + 1) (fun _ => False) ows :=
  ⟨h.len, fun k r hk => by obtain ⟨ex, a, b, c, d⟩ := h.row k r hk; exact ⟨ex, a, b, fun y hy => ⟨by have := (c y hy).1; omega, (c y hy).2⟩, fun z => by have := (c _ z).1; omega⟩⟩
/-- What overwriters holds at last. -/
structure OWF (ss : List Sr) (os : List Ob) (fa : List Int) (n : Nat) (ows : List (List Nat)) : Prop where
  len : ows.length = ss.length
  row : ∀ (k : Nat) (row : List Nat), ows[k]? = some row → row.length ≤ n + 1 ∧ ∀ y ∈ row, (∃ i : Int, fa[k]? = some i ∧ 0 ≤ i ∧ y = i.toNat) ∨ (y < n ∧ good ss os k y)
theorem OW.final {ss : List Sr} {os : List Ob} {fa : List Int} {n : Nat} {P : Nat → Prop} {ows : List (List Nat)} (h : OW ss os fa n (fun _ => False) ows) : OWF ss os fa n ows := by
  refine ⟨h.len, fun k r hk => ?_⟩
  obtain ⟨ex, rfl, b, c, d⟩ := h.row k r hk
  have c' : ∀ y ∈ ex, y < n := fun y hy => by
    have := (c y hy).1
    by_cases e : y = n
    · subst e; exact absurd (d hy) (by simp)
    · omega
  have h3 := nodup_le b c'
  have h4 : (baseAt fa k).length ≤ 1 := by
    unfold baseAt
    split
    · split <;> simp
    · simp
  refine ⟨by simp only [List.length_append]; omega, fun y hy => ?_⟩
  rcases List.mem_append.mp hy with hy | hy
  · left
    unfold baseAt at hy
    split at hy
    · rename_i i hi
      split at hy
      · rename_i h0
        simp at hy
        exact ⟨i, hi, h0, hy⟩
      · simp at hy
    · simp at hy
  · exact .inr ⟨c' y hy, (c y hy).2⟩

/-- sourcesBy, readFrom, sourceOf, wrote. -/
def T5I (ss : List Sr) (k : Nat) (R : List (List Nat)) : Prop := ∀ (t : Nat) (row : List Nat), R[t]? = some row → row.Nodup ∧ ∀ y ∈ row, y < k ∧ ∃ s, ss[y]? = some s ∧ s.wr = t
def T6I (ss : List Sr) (R : List (List Nat)) : Prop := ∀ (t : Nat) (row : List Nat), R[t]? = some row → ∀ y ∈ row, ∃ (k' : Nat) (s' : Sr), ss[k']? = some s' ∧ s'.wr = y ∧ t ∈ s'.rd
def SAI (ss : List Sr) (SA : Nat × Nat → Option Nat) : Prop := ∀ p k, SA p = some k → ∃ s, ss[k]? = some s ∧ s.wr = p.1 ∧ s.ob = p.2
def T11I (os : List Ob) (x : Nat) (seen : List Nat) (R : List (List Nat)) : Prop := ∀ (t : Nat) (row : List Nat), R[t]? = some row → row.Nodup ∧ ∀ y ∈ row, (∃ o, os[y]? = some o ∧ t ∈ o.wr) ∧ (y < x ∨ (y = x ∧ t ∈ seen))
theorem T5I.start (ss : List Sr) (n : Nat) : T5I ss 0 (List.replicate n []) := by
  intro t row h
  obtain ⟨_, rfl⟩ := List.mem_replicate.mp (List.mem_of_getElem? h)
  simp
theorem T6I.start (ss : List Sr) (n : Nat) : T6I ss (List.replicate n []) := by
  intro t row h
  obtain ⟨_, rfl⟩ := List.mem_replicate.mp (List.mem_of_getElem? h)
  simp
theorem T11I.start (os : List Ob) (n : Nat) : T11I os 0 [] (List.replicate n []) := by
  intro t row h
  obtain ⟨_, rfl⟩ := List.mem_replicate.mp (List.mem_of_getElem? h)
  simp
theorem T5I.put {ss : List Sr} {k : Nat} {R : List (List Nat)} (h : T5I ss k R) {s : Sr} (hs : ss[k]? = some s) {r : List Nat} (hr : R[s.wr]? = some r) : T5I ss (k + 1) (R.set s.wr (r ++ [k])) := by
  intro t row ht
  by_cases e : s.wr = t
  · rw [← e, List.getElem?_set_self (List.getElem?_eq_some_iff.mp hr).1] at ht
    injection ht with ht
    subst ht
    obtain ⟨h1, h2⟩ := h _ _ hr
    refine ⟨?_, fun y hy => ?_⟩
    · rw [List.nodup_append]
      refine ⟨h1, by simp, fun a ha b hb z => ?_⟩
      simp at hb
      subst hb z
      have := (h2 a ha).1; omega
    · rcases List.mem_append.mp hy with hy | hy
      · have := h2 y hy; exact ⟨by omega, by rw [← e]; exact this.2⟩
      · simp at hy; subst hy; exact ⟨by omega, s, hs, e⟩
  · rw [List.getElem?_set_ne e] at ht
    obtain ⟨h1, h2⟩ := h _ _ ht
    exact ⟨h1, fun y hy => ⟨by have := (h2 y hy).1; omega, (h2 y hy).2⟩⟩
theorem T6I.put {ss : List Sr} {R : List (List Nat)} (h : T6I ss R) {k t : Nat} {s : Sr} (hs : ss[k]? = some s) (ht : t ∈ s.rd) {r : List Nat} (hr : R[t]? = some r) : T6I ss (R.set t (r ++ [s.wr])) := by
  intro t' row ht'
  by_cases e : t = t'
  · subst e
    rw [List.getElem?_set_self (List.getElem?_eq_some_iff.mp hr).1] at ht'
    injection ht' with ht'
    subst ht'
    intro y hy
    rcases List.mem_append.mp hy with hy | hy
    · exact h _ _ hr y hy
    · simp at hy; subst hy; exact ⟨k, s, hs, rfl, ht⟩
  · rw [List.getElem?_set_ne e] at ht'
    exact h _ _ ht'
theorem SAI.put {ss : List Sr} {SA : Nat × Nat → Option Nat} (h : SAI ss SA) {k : Nat} {s : Sr} (hs : ss[k]? = some s) : SAI ss (fun p => if p = (s.wr, s.ob) then some k else SA p) := by
  intro p j hj
  by_cases e : p = (s.wr, s.ob)
  · simp [e] at hj; subst hj e
    exact ⟨s, hs, rfl, rfl⟩
  · simp [e] at hj; exact h p j hj
theorem T11I.put {os : List Ob} {x : Nat} {seen : List Nat} {R : List (List Nat)} (h : T11I os x seen R) {o : Ob} (ho : os[x]? = some o) {t : Nat} (ht : t ∈ o.wr) (hn : t ∉ seen) {r : List Nat} (hr : R[t]? = some r) : T11I os x (seen ++ [t]) (R.set t (r ++ [x])) := by
  intro t' row ht'
  by_cases e : t = t'
  · subst e
    rw [List.getElem?_set_self (List.getElem?_eq_some_iff.mp hr).1] at ht'
    injection ht' with ht'
    subst ht'
    obtain ⟨h1, h2⟩ := h _ _ hr
    refine ⟨?_, fun y hy => ?_⟩
    · rw [List.nodup_append]
      refine ⟨h1, by simp, fun a ha b hb z => ?_⟩
      simp at hb
      subst hb z
      rcases (h2 a ha).2 with g | ⟨_, g⟩
      · omega
      · exact hn g
    · rcases List.mem_append.mp hy with hy | hy
      · obtain ⟨g1, g2⟩ := h2 y hy
        refine ⟨g1, ?_⟩
        rcases g2 with g2 | ⟨g2, g3⟩
        · exact .inl g2
        · exact .inr ⟨g2, by simp [g3]⟩
      · simp at hy; subst hy; exact ⟨⟨o, ho, ht⟩, .inr ⟨rfl, by simp⟩⟩
  · rw [List.getElem?_set_ne e] at ht'
    obtain ⟨h1, h2⟩ := h _ _ ht'
    refine ⟨h1, fun y hy => ?_⟩
    obtain ⟨g1, g2⟩ := h2 y hy
    refine ⟨g1, ?_⟩
    rcases g2 with g2 | ⟨g2, g3⟩
    · exact .inl g2
    · exact .inr ⟨g2, by simp [g3]⟩
theorem T11I.next {os : List Ob} {x : Nat} {seen : List Nat} {R : List (List Nat)} (h : T11I os x seen R) : T11I os (x + 1) [] R := by
  intro t row ht
  obtain ⟨h1, h2⟩ := h t row ht
  refine ⟨h1, fun y hy => ?_⟩
  obtain ⟨g1, g2⟩ := h2 y hy
  exact ⟨g1, .inl (by omega)⟩
theorem T11I.short {os : List Ob} {x : Nat} {seen : List Nat} {R : List (List Nat)} (h : T11I os x seen R) {t : Nat} {row : List Nat} (ht : R[t]? = some row) : row.length ≤ x + 1 := by
  obtain ⟨h1, h2⟩ := h t row ht
  exact nodup_le h1 (fun y hy => by have := (h2 y hy).2; omega)
theorem T5I.short {ss : List Sr} {k : Nat} {R : List (List Nat)} (h : T5I ss k R) {t : Nat} {row : List Nat} (ht : R[t]? = some row) : row.length ≤ k := by
  obtain ⟨h1, h2⟩ := h t row ht
  exact nodup_le h1 (fun y hy => (h2 y hy).1)
/-- While forcedAfter is taken. -/
def OW0 (fa : List Int) (k : Nat) (ows : List (List Nat)) : Prop := ∀ (j : Nat) (row : List Nat), ows[j]? = some row → row = if j < k then baseAt fa j else []
theorem OW0.start (fa : List Int) (n : Nat) : OW0 fa 0 (List.replicate n []) := by
  intro j row h
  obtain ⟨_, rfl⟩ := List.mem_replicate.mp (List.mem_of_getElem? h)
  simp
theorem OW0.skip {fa : List Int} {k : Nat} {ows : List (List Nat)} (h : OW0 fa k ows) {i : Int} (hi : fa[k]? = some i) (h0 : ¬ 0 ≤ i) : OW0 fa (k + 1) ows := by
  intro j row hj
  have := h j row hj
  by_cases e : j = k
  · subst e
    have e2 : baseAt fa j = [] := by simp [baseAt, hi, h0]
    simp [e2]; simpa using this
  · rw [this]
    by_cases c : j < k
    · simp [c, show j < k + 1 by omega]
    · simp [c, show ¬ j < k + 1 by omega]
theorem OW0.put {fa : List Int} {k : Nat} {ows : List (List Nat)} (h : OW0 fa k ows) {i : Nat} (hi : fa[k]? = some (i : Int)) {r : List Nat} (hr : ows[k]? = some r) : OW0 fa (k + 1) (ows.set k (r ++ [i])) := by
  intro j row hj
  by_cases e : k = j
  · subst e
    rw [List.getElem?_set_self (List.getElem?_eq_some_iff.mp hr).1] at hj
    injection hj with hj
    subst hj
    have := h k r hr
    simp at this
    subst this
    simp [baseAt, hi]
  · rw [List.getElem?_set_ne e] at hj
    rw [h j row hj]
    by_cases c : j < k
    · simp [c, show j < k + 1 by omega]
    · simp [c, show ¬ j < k + 1 by omega]
theorem OW0.done {ss : List Sr} {os : List Ob} {fa : List Int} {ows : List (List Nat)} (h : OW0 fa fa.length ows) (hl : ows.length = ss.length) : OW ss os fa 0 (fun _ => False) ows := by
  refine ⟨hl, fun k r hk => ⟨[], ?_, by simp, by simp, by simp⟩⟩
  rw [h k r hk]
  by_cases c : k < fa.length
  · simp [c]
  · simp [c, baseAt]
def overG (G : List (List Nat)) : List Sr → List (List Nat) → List (List Nat)
  | s :: ss, r :: rs => overG (if r = [] then G else othersG G s.rd r) ss rs
  | _, _ => G
def overJ (J : List Bool) : List Sr → List (List Nat) → List Bool
  | s :: ss, r :: rs => overJ (if r = [] then J else othersJ J s.rd r) ss rs
  | _, _ => J
theorem overG_nil (G : List (List Nat)) (rs : List (List Nat)) : overG G [] rs = G := by cases rs <;> rfl
theorem overJ_nil (J : List Bool) (rs : List (List Nat)) : overJ J [] rs = J := by cases rs <;> rfl
theorem Srcs.at {w : World} {g : SG} {ss : List Sr} (h : Srcs w g ss) {k : Nat} {s : Sr} (hk : ss[k]? = some s) :
    ∃ (bS : Nat) (v : SV) (f : List Nat), g.a = some ⟨bS, 0, none⟩ ∧ w.cell? ⟨bS, k * 4, none⟩ = some (.int .i64 s.ob) ∧ w.cell? ⟨bS, k * 4 + 1, none⟩ = some (.int .i64 s.wr) ∧ w.cell? ⟨bS, k * 4 + 2, none⟩ = some (.int .i64 s.rk) ∧ w.cell? ⟨bS, k * 4 + 3, none⟩ = some (.slice v.a v.n v.c) ∧
      v.n = s.rd.length ∧ Sl w 3 1 v.a v.n v.c f (s.rd.map nI) ∧ (∀ j ∈ f, j ∈ g.foot) ∧ bS ∈ g.foot := by
  have hl := (List.getElem?_eq_some_iff.mp hk).1
  obtain ⟨v, f, a0, _, a1, a2, a3⟩ := h.rows.at (i := k) (r := s.rd) (by simp [hk])
  obtain ⟨bS, e1, e2, _, e3, _⟩ := h.top.has (by omega)
  have hz : (ss.zip g.vs)[k]? = some (s, v) := by rw [List.getElem?_zip_eq_some]; exact ⟨hk, a0⟩
  have q := fun j (hj : j < 4) => flat3 srCells 4 (fun _ => rfl) (ss.zip g.vs) k j (s, v) hz hj
  refine ⟨bS, v, f, e1, ?_, ?_, ?_, ?_, a1, a2, fun j hj => by simp only [SG.foot, List.mem_append]; exact .inr (a3 j hj), by simp [SG.foot, e2]⟩
  · rw [e3 (k * 4) (by omega)]; have := q 0 (by omega); rw [Nat.add_zero] at this; rw [this]; rfl
  · rw [e3 (k * 4 + 1) (by omega), q 1 (by omega)]; rfl
  · rw [e3 (k * 4 + 2) (by omega), q 2 (by omega)]; rfl
  · rw [e3 (k * 4 + 3) (by omega), q 3 (by omega)]; rfl
theorem Srcs.lt {w : World} {g : SG} {ss : List Sr} (h : Srcs w g ss) : ∀ k ∈ g.foot, k < w.heap.size := by
  intro k hk
  simp only [SG.foot, List.mem_append] at hk
  rcases hk with hk | hk
  · exact h.top.lt k hk
  · exact h.rows.lt k hk
theorem Srcs.keep {w w' : World} {g : SG} {ss : List Sr} (h : Srcs w g ss) {S : List Nat} (hu : Upd S w w') (hn : ∀ k ∈ g.foot, k ∉ S) : Srcs w' g ss :=
  ⟨h.top.keep hu (fun k hk => hn k (by simp [SG.foot, hk])), h.rows.keep hu (fun k hk => hn k (by simp only [SG.foot, List.mem_append]; exact .inr hk)), h.nd⟩
theorem Pcs.take {w0 w : World} {L : List Pc} (h : Pcs w0 w L) (n : Nat) : Pcs w0 w (L.take n) := by
  refine ⟨h.bel, fun p hp => h.holds p (List.mem_of_mem_take hp), ?_⟩
  have := h.nd
  rw [← List.take_append_drop n L, List.map_append, List.flatten_append, List.nodup_append] at this
  exact this.1
def BlkIs (b : Nat) (t : TypeId) (cs : Array Value) (w : World) : Prop := Blk w b t cs
theorem BlkIs.keeps (b : Nat) (t : TypeId) (cs : Array Value) : Keeps [b] (BlkIs b t cs) := fun w w' S h hu hS => Blk.keep h hu (hS b (by simp))
end Go.Proofs.YbulkctquGreatFmt

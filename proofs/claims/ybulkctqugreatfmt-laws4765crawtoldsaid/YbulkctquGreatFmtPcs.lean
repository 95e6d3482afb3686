/-
  The call's own memory as a list of pieces that share nothing; tables of rows; keys of two numbers.
-/
import Derived.Test.YbulkctquGreatFmtRws
import Derived.Test.YbulkctquGreatFmtMaps2
namespace Go.Proofs.YbulkctquGreatFmt
open Go.ChangeShapes Go.WideShapes Go.ChangeAt Go.RowKit Go.Ord
set_option linter.unusedVariables false

/-- A key of two numbers. -/
def k2 (p : Nat × Nat) : Value := .agg #[.int .i64 p.1, .int .i64 p.2]
theorem pairKeys {P : Program} {t kt : TypeId} {fa fb : Field} (ht : P.underlying t = some (.struct #[fa, fb])) (hk : P.underlying kt = some (.int .i64)) (hs : P.stoodInHeld t = false)
    (na : fa.name ≠ "_") (nb : fb.name ≠ "_") (ta : fa.type = kt) (tb : fb.type = kt) (oa : fa.offset = 0) (ob : fb.offset = 1) (hf : P.fieldsOf t = #[fa, fb]) : KeyLaw P t k2 := by
  have p0 : ∀ (a b : Nat) (w : World), (part kt #[.int .i64 a, .int .i64 b] 0).run P w = .ok (.int .i64 a) w := fun a b w => by simp [part, isAgg, run_underlying hk]
  have p1 : ∀ (a b : Nat) (w : World), (part kt #[.int .i64 a, .int .i64 b] 1).run P w = .ok (.int .i64 b) w := fun a b w => by simp [part, isAgg, run_underlying hk]
  refine ⟨fun a b w => ?_, ⟨_, ht, .inr fun a b => rfl⟩, fun em a w => ?_, fun a => ?_⟩
  · have h1 := run_equalIn_struct (P := P) w 9999 t #[.int .i64 a.1, .int .i64 a.2] #[.int .i64 b.1, .int .i64 b.2] (by rw [hf]; exact ht) hs
    have e1 : ∀ w : World, (Op.equalIn 9999 kt (.int .i64 a.1) (.int .i64 b.1)).run P w = .ok ((a.1 : Int) == (b.1 : Int)) w := fun w => run_equalIn_int (P := P) w 9998 kt .i64 .i64 a.1 b.1 hk
    have e2 : ∀ w : World, (Op.equalIn 9999 kt (.int .i64 a.2) (.int .i64 b.2)).run P w = .ok ((a.2 : Int) == (b.2 : Int)) w := fun w => run_equalIn_int (P := P) w 9998 kt .i64 .i64 a.2 b.2 hk
    show (Op.equalIn (9999 + 1) t (k2 a) (k2 b)).run P w = _
    unfold k2
    rw [h1, hf]
    clear h1
    obtain ⟨a1, a2⟩ := a
    obtain ⟨b1, b2⟩ := b
    simp only at e1 e2
    simp only [Op.eqFields, na, nb, ne_eq, not_false_eq_true, if_true, ta, tb, oa, ob, Sem.run_bind, p0, Result.andThen_ok, e1]
    by_cases h : a1 = b1
    · by_cases h' : a2 = b2
      · subst h h'
        simp [e2, p1]
      · have : ¬ (a2 : Int) = (b2 : Int) := by omega
        simp [h, e2, p1, h', this]
    · have : ¬ (a1 : Int) = (b1 : Int) := by omega
      simp [h, this]
  · have : ∀ d : Nat, (Instr.checkKey em (d + 2) t (k2 a)).run P w = .ok () w := fun d => by
      simp [Instr.checkKey, run_underlying ht, run_underlying hk, k2, na, nb, ta, tb, oa, ob, p0, p1]
    exact this 9998
  · have : ∀ d : Nat, Instr.sameBits (d + 1) (k2 a) (k2 a) = true := fun d => by simp [k2, Instr.sameBits]
    exact this 9999
theorem key180 : KeyLaw Ybaz.prog 180 k2 := pairKeys Ybaz.underlying180 Ybaz.underlying3 (by kernel_rfl) (by decide) (by decide) rfl rfl rfl rfl (by kernel_rfl)
theorem makeMap_hint {P : Program} {t k e : TypeId} (ht : P.underlying t = some (.map k e)) (n : Nat) (w : World) : (Instr.makeMap t (some (.int .i64 n))).run P w = .ok (.map (some w.heap.size)) (w.alloc (.map #[] 0)) := by
  simp [Instr.makeMap, run_underlying ht, asInt]
  rfl

/-- A statement that hangs on some blocks alone. -/
def Keeps (fp : List Nat) (P : World → Prop) : Prop := ∀ (w w' : World) (S : List Nat), P w → Upd S w w' → (∀ k ∈ fp, k ∉ S) → P w'
abbrev Pc := List Nat × (World → Prop)
structure Pcs (w0 w : World) (L : List Pc) : Prop where
  bel : Below w0.heap.size w0 w
  holds : ∀ p ∈ L, p.2 w ∧ Keeps p.1 p.2 ∧ ∀ k ∈ p.1, w0.heap.size ≤ k ∧ k < w.heap.size
  nd : (L.map Prod.fst).flatten.Nodup
theorem Pcs.start (w : World) : Pcs w w [] := ⟨Below.refl _ _, fun p h => by simp at h, by simp⟩
theorem Pcs.mem {w0 w : World} {L : List Pc} (h : Pcs w0 w L) {i : Nat} {p : Pc} (hi : L[i]? = some p) : p.2 w := (h.holds p (List.mem_of_getElem? hi)).1
theorem Pcs.ge {w0 w : World} {L : List Pc} (h : Pcs w0 w L) {i : Nat} {p : Pc} (hi : L[i]? = some p) : ∀ k ∈ p.1, w0.heap.size ≤ k := fun k hk => ((h.holds p (List.mem_of_getElem? hi)).2.2 k hk).1
theorem Pcs.lt {w0 w : World} {L : List Pc} (h : Pcs w0 w L) {i : Nat} {p : Pc} (hi : L[i]? = some p) : ∀ k ∈ p.1, k < w.heap.size := fun k hk => ((h.holds p (List.mem_of_getElem? hi)).2.2 k hk).2
theorem Pcs.apart {w0 w : World} {L : List Pc} (h : Pcs w0 w L) {i j : Nat} {p q : Pc} (hi : L[i]? = some p) (hj : L[j]? = some q) (hn : i ≠ j) : ∀ k ∈ p.1, k ∉ q.1 :=
  flat_apart h.nd hn (by simp [hi]) (by simp [hj])
/-- What is new only. -/
theorem Pcs.keep {w0 w w' : World} {L : List Pc} (h : Pcs w0 w L) {S : List Nat} (hu : Upd S w w') (hS : ∀ k ∈ S, w.heap.size ≤ k) : Pcs w0 w' L := by
  refine ⟨h.bel.trans (hu.below h.bel.size (fun k hk => by have := hS k hk; have := h.bel.size; omega)), fun p hp => ?_, h.nd⟩
  obtain ⟨a, b, c⟩ := h.holds p hp
  refine ⟨b w w' S a hu (fun k hk hm => by have := hS k hm; have := (c k hk).2; omega), b, fun k hk => ⟨(c k hk).1, ?_⟩⟩
  have := (c k hk).2; have := hu.size; omega
/-- Other blocks alone. -/
theorem Pcs.besides {w0 w w' : World} {L : List Pc} (h : Pcs w0 w L) {S : List Nat} (hu : Upd S w w') (hS : ∀ p ∈ L, ∀ k ∈ p.1, k ∉ S) (hb : Below w0.heap.size w0 w') : Pcs w0 w' L := by
  refine ⟨hb, fun p hp => ?_, h.nd⟩
  obtain ⟨a, b, c⟩ := h.holds p hp
  refine ⟨b w w' S a hu (hS p hp), b, fun k hk => ⟨(c k hk).1, ?_⟩⟩
  have := (c k hk).2; have := hu.size; omega
theorem Pcs.add {w0 w w' : World} {L : List Pc} (h : Pcs w0 w L) {S : List Nat} (hu : Upd S w w') (hS : ∀ k ∈ S, w.heap.size ≤ k) (fp : List Nat) (P : World → Prop) (hP : P w') (hK : Keeps fp P) (hf : ∀ k ∈ fp, w.heap.size ≤ k ∧ k < w'.heap.size) (hn : fp.Nodup) : Pcs w0 w' (L ++ [(fp, P)]) := by
  have h' := h.keep hu hS
  refine ⟨h'.bel, fun p hp => ?_, ?_⟩
  · rcases List.mem_append.mp hp with hp | hp
    · exact h'.holds p hp
    · simp at hp; subst hp
      exact ⟨hP, hK, fun k hk => ⟨by have := (hf k hk).1; have := h.bel.size; omega, (hf k hk).2⟩⟩
  · rw [List.map_append, List.flatten_append, List.nodup_append]
    refine ⟨h.nd, by simpa using hn, ?_⟩
    intro a ha b hb e
    subst e
    simp at hb
    have h1 := (hf a hb).1
    rw [List.mem_flatten] at ha
    obtain ⟨f, h2, h3⟩ := ha
    rw [List.mem_map] at h2
    obtain ⟨p, h4, rfl⟩ := h2
    have := ((h.holds p h4).2.2 a h3).2
    omega
theorem nodup_flat_set' {fI : List (List Nat)} {t : Nat} {f f' : List Nat} (h : fI.flatten.Nodup) (ht : fI[t]? = some f) (hn : f'.Nodup) (hf : ∀ k ∈ f', k ∈ f ∨ k ∉ fI.flatten) : (fI.set t f').flatten.Nodup := by
  induction fI generalizing t with
  | nil => simp at ht
  | cons a r ih =>
    simp only [List.flatten_cons, List.nodup_append] at h
    cases t with
    | zero =>
      simp at ht; subst ht
      simp only [List.set_cons_zero, List.flatten_cons, List.nodup_append]
      refine ⟨hn, h.2.1, fun x hx y hy e => ?_⟩
      subst e
      rcases hf x hx with h1 | h1
      · exact h.2.2 x h1 x hy rfl
      · exact h1 (by simp [List.mem_flatten] at hy ⊢; exact .inr hy)
    | succ t =>
      simp only [List.set_cons_succ, List.flatten_cons, List.nodup_append]
      refine ⟨h.1, ih h.2.1 (by simpa using ht) (fun k hk => ?_), fun x hx y hy e => ?_⟩
      · rcases hf k hk with h1 | h1
        · exact .inl h1
        · exact .inr (fun hm => h1 (by simp only [List.flatten_cons, List.mem_append]; exact .inr hm))
      · subst e
        rcases mem_flat_set hy with h1 | h1
        · rcases hf x h1 with h2 | h2
          · exact h.2.2 x hx x (List.mem_flatten.mpr ⟨f, List.mem_of_getElem? (by simpa using ht), h2⟩) rfl
          · exact h2 (by simp only [List.flatten_cons, List.mem_append]; exact .inl hx)
        · exact h.2.2 x hx x h1 rfl
/-- One piece turned. -/
theorem Pcs.put {w0 w w' : World} {L : List Pc} (h : Pcs w0 w L) {i : Nat} {fp : List Nat} {P : World → Prop} (hi : L[i]? = some (fp, P)) (hu : Upd fp w w') {fp' : List Nat} {P' : World → Prop} (hP : P' w') (hK : Keeps fp' P') (hf : ∀ k ∈ fp', (k ∈ fp ∨ w.heap.size ≤ k) ∧ k < w'.heap.size) (hn : fp'.Nodup) : Pcs w0 w' (L.set i (fp', P')) := by
  have hz := h.bel.size
  refine ⟨h.bel.trans (hu.below hz (fun k hk => h.ge hi k hk)), fun p hp => ?_, ?_⟩
  · obtain ⟨j, hj⟩ := List.getElem?_of_mem hp
    by_cases e : i = j
    · subst e
      rw [List.getElem?_set_self (List.getElem?_eq_some_iff.mp hi).1] at hj
      injection hj with hj
      subst hj
      refine ⟨hP, hK, fun k hk => ⟨?_, (hf k hk).2⟩⟩
      rcases (hf k hk).1 with h1 | h1
      · exact h.ge hi k h1
      · omega
    · rw [List.getElem?_set_ne e] at hj
      obtain ⟨a, b, c⟩ := h.holds p (List.mem_of_getElem? hj)
      refine ⟨b w w' _ a hu (fun k hk hm => h.apart hj hi (fun z => e z.symm) k hk hm), b, fun k hk => ⟨(c k hk).1, ?_⟩⟩
      have := (c k hk).2; have := hu.size; omega
  · rw [List.map_set]
    refine nodup_flat_set' h.nd (f := fp) (by simp [hi]) hn (fun k hk => ?_)
    rcases (hf k hk).1 with h1 | h1
    · exact .inl h1
    · refine .inr (fun hm => ?_)
      rw [List.mem_flatten] at hm
      obtain ⟨f, h2, h3⟩ := hm
      rw [List.mem_map] at h2
      obtain ⟨p, h4, rfl⟩ := h2
      have := ((h.holds p h4).2.2 k h3).2
      omega

/-- A table: rows of numbers under one row of words in block b. -/
structure Tab (b n : Nat) (fp : List Nat) (R : List (List Nat)) (w : World) : Prop where
  lies : ∃ vs fI, fp = b :: fI.flatten ∧ Sl w 83 1 (some ⟨b, 0, none⟩) n n [b] (vs.map SV.val) ∧ Rws w vs fI R ∧ ∀ (i : Nat) (s : SV), vs[i]? = some s → s.n = 0 → s.a = none
  len : R.length = n
  nd : fp.Nodup
theorem Tab.keeps (b n : Nat) (fp : List Nat) (R : List (List Nat)) : Keeps fp (Tab b n fp R) := by
  intro w w' S h hu hS
  obtain ⟨vs, fI, h1, h2, h3, h4⟩ := h.lies
  subst h1
  exact ⟨⟨vs, fI, rfl, h2.keep hu (fun k hk => hS k (by simp at hk; simp [hk])), h3.keep hu (fun k hk => hS k (by simp only [List.mem_cons]; exact .inr hk)), h4⟩, h.len, h.nd⟩
theorem Tab.made (w : World) (n : Nat) (hn : n < 1000000) : Tab w.heap.size n [w.heap.size] (List.replicate n []) (w.alloc (.cells (zeros (.slice none 0 0) n).toArray 83)) := by
  have q := Sl.made w 83 (.slice none 0 0) 1 n n (Nat.le_refl _) hn
  rw [Nat.mul_one, zeros_one _ rfl] at q
  have r := (Rws.empty (w.alloc (.cells (zeros (.slice none 0 0) n).toArray 83))).more n
  simp only [List.nil_append] at r
  refine ⟨⟨List.replicate n ⟨none, 0, 0⟩, List.replicate n [], by simp, ?_, r, ?_⟩, by simp, by simp⟩
  · rw [zeros_one _ rfl, List.map_replicate]
    exact q
  · intro i s hs _
    obtain ⟨_, rfl⟩ := List.mem_replicate.mp (List.mem_of_getElem? hs)
    rfl
/-- A row of a table, and how it takes one number more. -/
theorem Tab.at {b n : Nat} {fp : List Nat} {R : List (List Nat)} {w : World} (h : Tab b n fp R w) {i : Nat} {r : List Nat} (hr : R[i]? = some r) :
    ∃ (s : SV) (f : List Nat), w.cell? ⟨b, i, none⟩ = some (.slice s.a s.n s.c) ∧ w.frozen? ⟨b, i, none⟩ = false ∧ s.n = r.length ∧ Sl w 3 1 s.a s.n s.c f (r.map nI) ∧ b ∉ f ∧ (∀ k ∈ f, k ∈ fp) ∧ b ∈ fp ∧ (r = [] → s.a = none) ∧
      ∀ (g c x : Nat) (w1 : World), Sl w1 3 1 (some ⟨g, 0, none⟩) (s.n + 1) c [g] (r.map nI ++ [nI x]) → Upd f w w1 → (g ∈ f ∨ w.heap.size ≤ g) →
        ∃ fp', Tab b n fp' (R.set i (r ++ [x])) (w1.setCell ⟨b, i, none⟩ (.slice (some ⟨g, 0, none⟩) (s.n + 1) c)) ∧ Upd fp w (w1.setCell ⟨b, i, none⟩ (.slice (some ⟨g, 0, none⟩) (s.n + 1) c)) ∧ ∀ k ∈ fp', (k ∈ fp ∨ w.heap.size ≤ k) ∧ k < w1.heap.size := by
  obtain ⟨vs, fI, e1, t1, rw1, z1⟩ := h.lies
  have hl := (List.getElem?_eq_some_iff.mp hr).1
  have hlen := h.len
  obtain ⟨s, f, hs, hf, h1, h2, h3⟩ := rw1.at hr
  obtain ⟨g0, eg, _, _, hc, hz⟩ := t1.has (by omega)
  injection eg with eg
  injection eg with eg
  subst eg
  have nd := h.nd
  rw [e1] at nd
  have hbf : b ∉ f := fun hm => (List.nodup_cons.mp nd).1 (h3 b hm)
  refine ⟨s, f, (hc i (by omega)).trans (by simp [hs, SV.val]), hz i, h1, h2, hbf, fun k hk => by rw [e1]; simp only [List.mem_cons]; exact .inr (h3 k hk), by rw [e1]; simp, fun e => z1 i s hs (by rw [h1, e]; rfl), ?_⟩
  intro g c x w1 s1 U F
  have r2 := rw1.put hr hs hf s1 U F
  have hbg : g ≠ b := by
    rintro rfl
    rcases F with e | e
    · exact hbf e
    · have := t1.lt g (by simp); omega
  have hst := Upd.store w1 b i (.slice (some ⟨g, 0, none⟩) (s.n + 1) c)
  have gl : g < w1.heap.size := s1.lt g (by simp)
  have hbn : ∀ k ∈ (fI.set i [g]).flatten, k ≠ b := by
    intro k hk e
    subst e
    rcases mem_flat_set hk with h5 | h5
    · simp at h5; exact hbg h5.symm
    · exact (List.nodup_cons.mp nd).1 h5
  have t2 := (t1.keep U (fun k hk hm => by simp at hk; subst hk; exact hbf hm)).store i (.slice (some ⟨g, 0, none⟩) (s.n + 1) c)
  have e2 : (vs.map SV.val).set i (.slice (some ⟨g, 0, none⟩) (s.n + 1) c) = (vs.set i ⟨some ⟨g, 0, none⟩, s.n + 1, c⟩).map SV.val := by rw [List.map_set]; rfl
  rw [e2] at t2
  refine ⟨b :: (fI.set i [g]).flatten, ⟨⟨_, _, rfl, t2, r2.keep hst (fun k hk hm => hbn k hk (by simpa using hm)), ?_⟩, by simp [hlen], ?_⟩, ?_, ?_⟩
  · intro j s' hj hz'
    by_cases e : i = j
    · subst e
      rw [List.getElem?_set_self (by rw [rw1.lV]; exact hl)] at hj
      injection hj with hj
      subst hj
      simp at hz'
    · rw [List.getElem?_set_ne e] at hj
      exact z1 j s' hj hz'
  · rw [List.nodup_cons]
    exact ⟨fun hm => hbn b hm rfl, r2.nd⟩
  · have U' : Upd fp w w1 := U.mono (fun k hk => .inl (by rw [e1]; simp only [List.mem_cons]; exact .inr (h3 k hk)))
    exact U'.trans hst (fun k hk => .inl (by simp at hk; rw [hk, e1]; simp))
  · intro k hk
    simp only [List.mem_cons] at hk
    rcases hk with rfl | hk
    · exact ⟨.inl (by rw [e1]; simp), by have := t1.lt k (by simp); have := U.size; omega⟩
    · refine ⟨?_, r2.lt k hk⟩
      rcases mem_flat_set hk with h5 | h5
      · simp at h5; subst h5
        rcases F with h6 | h6
        · exact .inl (by rw [e1]; simp only [List.mem_cons]; exact .inr (h3 _ h6))
        · exact .inr h6
      · exact .inl (by rw [e1]; simp only [List.mem_cons]; exact .inr h5)
/-- A row of marks. -/
def MarksAt (b n : Nat) (M : List Nat) (w : World) : Prop := Sl w 3 1 (some ⟨b, 0, none⟩) n n [b] (M.map nI)
theorem MarksAt.keeps (b n : Nat) (M : List Nat) : Keeps [b] (MarksAt b n M) := fun w w' S h hu hS => Sl.keep h hu hS
theorem MarksAt.made (w : World) (n : Nat) (hn : n < 1000000) : MarksAt w.heap.size n (List.replicate n 0) (w.alloc (.cells (zeros (.int .i64 0) n).toArray 3)) := by
  have q := Sl.made w 3 (.int .i64 0) 1 n n (Nat.le_refl _) hn
  rw [Nat.mul_one, zeros_one _ rfl] at q
  unfold MarksAt
  rw [List.map_replicate, zeros_one _ rfl]
  exact q
theorem MarksAt.get {b n : Nat} {M : List Nat} {w : World} (h : MarksAt b n M w) {i v : Nat} (hi : M[i]? = some v) : w.cell? ⟨b, i, none⟩ = some (.int .i64 v) ∧ w.frozen? ⟨b, i, none⟩ = false := by
  have hl := (List.getElem?_eq_some_iff.mp hi).1
  have h0 : Sl w 3 1 (some ⟨b, 0, none⟩) n n [b] (M.map nI) := h
  have h1 := h0.len
  simp at h1
  obtain ⟨g, e, _, _, hc, hz⟩ := h0.has (by omega)
  injection e with e
  injection e with e
  subst e
  exact ⟨(hc i (by omega)).trans (by simp [hi, nI]), hz i⟩
theorem MarksAt.set {b n : Nat} {M : List Nat} {w : World} (h : MarksAt b n M w) (i v : Nat) : MarksAt b n (M.set i v) (w.setCell ⟨b, i, none⟩ (.int .i64 v)) := by
  have h0 : Sl w 3 1 (some ⟨b, 0, none⟩) n n [b] (M.map nI) := h
  have s := h0.store i (nI v)
  rw [← List.map_set] at s
  exact s
/-- One cell. -/
def CellIs (b : Nat) (v : Value) (w : World) : Prop := w.cell? ⟨b, 0, none⟩ = some v
theorem CellIs.keeps (b : Nat) (v : Value) : Keeps [b] (CellIs b v) := fun w w' S h hu hS => hu.cell h (hS b (by simp))
theorem mapKeeps {κ : Type} [DecidableEq κ] (kv : κ → Value) (b : Nat) (f : κ → Option Value) : Keeps [b] (fun w => MapAt w kv b f) := fun w w' S h hu hS => MapAt.keep h hu (hS b (by simp))
end Go.Proofs.YbulkctquGreatFmt

/-
  order, no Go in sight: how the nodes come.
-/
import Derived.Test.YbulkctquGreatFmtJoin
namespace Go.Proofs.YbulkctquGreatFmt
set_option linter.unusedVariables false

def outs (G : List (List Nat)) (u : Nat) : List Nat := G.getD u []
def juncAt (J : List Bool) (v : Nat) : Bool := J.getD v false
/-- The arcs into w from nodes that are not in D. -/
def cnt (G : List (List Nat)) (D : List Nat) (w : Nat) : Nat := ((List.range G.length).map (fun u => if u ∈ D then 0 else (outs G u).count w)).sum

theorem sum_zero : ∀ (l : List Nat), l.sum = 0 ↔ ∀ x ∈ l, x = 0
  | [] => by simp
  | a :: l => by simp [sum_zero l]
theorem cnt_zero (G : List (List Nat)) (D : List Nat) (w : Nat) : cnt G D w = 0 ↔ ∀ u, u < G.length → u ∉ D → w ∉ outs G u := by
  unfold cnt
  rw [sum_zero]
  constructor
  · intro h u hu hd hm
    have := h (if u ∈ D then 0 else (outs G u).count w) (List.mem_map.mpr ⟨u, List.mem_range.mpr hu, rfl⟩)
    rw [if_neg hd] at this
    exact List.count_eq_zero.mp this hm
  · intro h x hx
    obtain ⟨u, hu, rfl⟩ := List.mem_map.mp hx
    by_cases hd : u ∈ D
    · rw [if_pos hd]
    · rw [if_neg hd]; exact List.count_eq_zero.mpr (h u (List.mem_range.mp hu) hd)
theorem sum_upd (f g : Nat → Nat) (v : Nat) : ∀ (l : List Nat), l.Nodup → v ∈ l → (∀ u ∈ l, u ≠ v → f u = g u) → (l.map f).sum + g v = (l.map g).sum + f v
  | [], _, h, _ => by simp at h
  | a :: l, hn, hm, he => by
    simp only [List.nodup_cons] at hn
    simp only [List.map_cons, List.sum_cons]
    by_cases e : a = v
    · subst e
      have : l.map f = l.map g := List.map_congr_left (fun u hu => he u (by simp [hu]) (fun e => hn.1 (e ▸ hu)))
      rw [this]; omega
    · have h1 := sum_upd f g v l hn.2 (by simp only [List.mem_cons] at hm; rcases hm with h | h; exact absurd h.symm e; exact h) (fun u hu => he u (by simp [hu]))
      have h2 := he a (by simp) e
      omega
theorem cnt_add (G : List (List Nat)) (D : List Nat) (v w : Nat) (hv : v < G.length) (hd : v ∉ D) : cnt G (D ++ [v]) w + (outs G v).count w = cnt G D w := by
  have := sum_upd (fun u => if u ∈ D ++ [v] then 0 else (outs G u).count w) (fun u => if u ∈ D then 0 else (outs G u).count w) v (List.range G.length) List.nodup_range (List.mem_range.mpr hv) (by
    intro u _ hne
    simp [hne])
  simp only [List.mem_append, List.mem_singleton, or_true, if_true, if_neg hd, Nat.add_zero] at this
  unfold cnt
  simp only [List.mem_append, List.mem_singleton]
  exact this

/-- How the nodes come: each behind all that point to it; of the nodes that stand for transactions, the lowest of those that may come, and none while a junction may. -/
def Free (G : List (List Nat)) (D : List Nat) (x : Nat) : Prop := ∀ u, u < G.length → x ∈ outs G u → u ∈ D
def Trace (G : List (List Nat)) (J : List Bool) (D : List Nat) : Prop := ∀ D1 v D2, D = D1 ++ v :: D2 →
  v < G.length ∧ v ∉ D1 ∧ Free G D1 v ∧ (juncAt J v = false → ∀ x, x < G.length → x ∉ D1 → Free G D1 x → juncAt J x = false ∧ v ≤ x)
theorem Trace.nil (G : List (List Nat)) (J : List Bool) : Trace G J [] := by
  intro D1 v D2 h
  have := congrArg List.length h
  simp at this
theorem Trace.snoc {G : List (List Nat)} {J : List Bool} {D : List Nat} (h : Trace G J D) {v : Nat} (h1 : v < G.length) (h2 : v ∉ D) (h3 : Free G D v) (h4 : juncAt J v = false → ∀ x, x < G.length → x ∉ D → Free G D x → juncAt J x = false ∧ v ≤ x) : Trace G J (D ++ [v]) := by
  intro D1 x D2 e
  rcases List.eq_nil_or_concat D2 with rfl | ⟨D3, y, rfl⟩
  · have := List.append_inj' (show D ++ [v] = D1 ++ [x] from e) rfl
    obtain ⟨rfl, e2⟩ := this
    injection e2 with e2
    subst e2
    exact ⟨h1, h2, h3, h4⟩
  · rw [List.concat_eq_append, ← List.cons_append, ← List.append_assoc] at e
    have := List.append_inj' e rfl
    exact h D1 x D3 this.1
theorem Trace.lt {G : List (List Nat)} {J : List Bool} {D : List Nat} (h : Trace G J D) : ∀ v ∈ D, v < G.length := by
  intro v hv
  obtain ⟨D1, D2, e⟩ := List.append_of_mem hv
  exact (h D1 v D2 e).1
theorem Trace.nodup {G : List (List Nat)} {J : List Bool} : ∀ {D : List Nat}, Trace G J D → D.Nodup := by
  intro D
  suffices hs : ∀ n (D : List Nat), D.length = n → Trace G J D → D.Nodup from fun h => hs _ D rfl h
  intro n
  induction n with
  | zero => intro D hl _; rw [List.eq_nil_of_length_eq_zero hl]; exact List.nodup_nil
  | succ n ih =>
    intro D hl h
    rcases List.eq_nil_or_concat D with rfl | ⟨D', v, rfl⟩
    · simp at hl
    · rw [List.concat_eq_append] at h hl ⊢
      have h' : Trace G J D' := by
        intro D1 x D2 e
        exact h D1 x (D2 ++ [v]) (by rw [e]; simp)
      have h2 := (h D' v [] rfl).2.1
      rw [List.nodup_append]
      exact ⟨ih D' (by simp at hl; omega) h', by simp, by intro a ha b hb e; simp at hb; subst hb e; exact h2 ha⟩
theorem nodup_len : ∀ (n : Nat) (D : List Nat), D.Nodup → (∀ v ∈ D, v < n) → D.length ≤ n
  | 0, D, _, h => by
    cases D with
    | nil => simp
    | cons a D => have := h a (by simp); omega
  | n + 1, D, hn, h => by
    by_cases hm : n ∈ D
    · have h1 := nodup_len n (D.erase n) (hn.erase n) (fun v hv => by
        have h2 := (hn.mem_erase_iff).1 hv
        have := h v h2.2; omega)
      rw [List.length_erase_of_mem hm] at h1
      omega
    · have := nodup_len n D hn (fun v hv => by
        have h2 := h v hv
        have : v ≠ n := fun e => hm (e ▸ hv)
        omega)
      omega
theorem Trace.len {G : List (List Nat)} {J : List Bool} {D : List Nat} (h : Trace G J D) : D.length ≤ G.length := nodup_len _ D h.nodup h.lt
/-- No arc leads back. -/
theorem Trace.fwd {G : List (List Nat)} {J : List Bool} {D : List Nat} {v w : Nat} (h : Trace G J (D ++ [v])) (hd : v ∉ D) (hw : w ∈ outs G v) (hv : v < G.length) : w ∉ D ++ [v] := by
  intro hm
  obtain ⟨D1, D2, e⟩ := List.append_of_mem hm
  have h1 := (h D1 w D2 e).2.2.1 v hv hw
  have h2 : D1 <+: D := by
    rcases List.eq_nil_or_concat D2 with rfl | ⟨D3, y, rfl⟩
    · have := List.append_inj' (show D ++ [v] = D1 ++ [w] from e) rfl
      exact ⟨[], by simp [this.1]⟩
    · rw [List.concat_eq_append, ← List.cons_append, ← List.append_assoc] at e
      have := List.append_inj' e rfl
      exact ⟨w :: D3, this.1.symm⟩
  exact hd (h2.subset h1)

/-- Between two nodes. -/
structure SI (G : List (List Nat)) (J : List Bool) (D pre Q R P : List Nat) : Prop where
  tr : Trace G J D
  c : ∀ w, w < G.length → pre[w]? = some (cnt G D w)
  m : ∀ x, x < G.length → ((x ∈ Q ∨ x ∈ R) ↔ (x ∉ D ∧ cnt G D x = 0))
  q : ∀ x ∈ Q, x < G.length ∧ juncAt J x = true
  r : ∀ x ∈ R, x < G.length ∧ juncAt J x = false
  nq : Q.Nodup
  nr : R.Nodup
  p : P = D.filter (fun v => !juncAt J v)
/-- While v's arcs are walked, k of them done. -/
structure SK (G : List (List Nat)) (J : List Bool) (D : List Nat) (v k : Nat) (pre Q R P : List Nat) : Prop where
  tr : Trace G J (D ++ [v])
  vd : v ∉ D
  vl : v < G.length
  c : ∀ w, w < G.length → pre[w]? = some (cnt G (D ++ [v]) w + ((outs G v).drop k).count w)
  m : ∀ x, x < G.length → ((x ∈ Q ∨ x ∈ R) ↔ (x ∉ D ++ [v] ∧ cnt G (D ++ [v]) x + ((outs G v).drop k).count x = 0))
  q : ∀ x ∈ Q, x < G.length ∧ juncAt J x = true
  r : ∀ x ∈ R, x < G.length ∧ juncAt J x = false
  nq : Q.Nodup
  nr : R.Nodup
  p : P = (D ++ [v]).filter (fun v => !juncAt J v)
theorem free_iff (G : List (List Nat)) (D : List Nat) (x : Nat) : Free G D x ↔ cnt G D x = 0 := by
  rw [cnt_zero]
  constructor
  · intro h u hu hd hm; exact hd (h u hu hm)
  · intro h u hu hm
    by_cases hd : u ∈ D
    · exact hd
    · exact absurd hm (h u hu hd)
/-- A junction is taken. -/
theorem SI.takeQ {G : List (List Nat)} {J : List Bool} {D pre Q R P : List Nat} {v : Nat} (h : SI G J D pre (Q ++ [v]) R P) : SK G J D v 0 pre Q R P := by
  have hv := h.q v (by simp)
  have hm := (h.m v hv.1).1 (.inl (by simp))
  have tr := h.tr.snoc hv.1 hm.1 ((free_iff G D v).2 hm.2) (fun e => by rw [hv.2] at e; cases e)
  have nq := h.nq
  rw [List.nodup_append] at nq
  have hvR : v ∉ R := fun e => by have := (h.r v e).2; rw [hv.2] at this; cases this
  refine ⟨tr, hm.1, hv.1, fun w hw => ?_, fun x hx => ?_, fun x hx => h.q x (by simp [hx]), h.r, nq.1, h.nr, ?_⟩
  · rw [h.c w hw, List.drop_zero, cnt_add G D v w hv.1 hm.1]
  · rw [List.drop_zero, cnt_add G D v x hv.1 hm.1]
    have := h.m x hx
    by_cases e : x = v
    · subst e
      have hq : x ∉ Q := fun hq => nq.2.2 x hq x (by simp) rfl
      simp [hq, hvR]
    · simp only [List.mem_append, List.mem_singleton, e, or_false] at this ⊢
      exact this
  · rw [List.filter_append, ← h.p]; simp [hv.2]
/-- A transaction is taken. -/
theorem SI.takeR {G : List (List Nat)} {J : List Bool} {D pre R R' P : List Nat} {v : Nat} (h : SI G J D pre [] R P) (hp : (v :: R').Perm R) (hmin : ∀ x ∈ R, v ≤ x) : SK G J D v 0 pre [] R' (P ++ [v]) := by
  have hvR : v ∈ R := hp.subset (by simp)
  have hv := h.r v hvR
  have hm := (h.m v hv.1).1 (.inr hvR)
  have tr := h.tr.snoc hv.1 hm.1 ((free_iff G D v).2 hm.2) (fun _ x hx hd hf => by
    have : x ∈ R := by
      rcases (h.m x hx).2 ⟨hd, (free_iff G D x).1 hf⟩ with e | e
      · simp at e
      · exact e
    exact ⟨(h.r x this).2, hmin x this⟩)
  have nr := (hp.nodup_iff).2 h.nr
  simp only [List.nodup_cons] at nr
  refine ⟨tr, hm.1, hv.1, fun w hw => ?_, fun x hx => ?_, by simp, fun x hx => h.r x (hp.subset (by simp [hx])), List.nodup_nil, nr.2, ?_⟩
  · rw [h.c w hw, List.drop_zero, cnt_add G D v w hv.1 hm.1]
  · rw [List.drop_zero, cnt_add G D v x hv.1 hm.1]
    have := h.m x hx
    by_cases e : x = v
    · subst e; simp [nr.1]
    · have e1 : x ∈ R ↔ x ∈ R' := by rw [← hp.mem_iff]; simp [e]
      simp only [List.not_mem_nil, false_or, e1, List.mem_append, List.mem_singleton, e, or_false] at this ⊢
      exact this
  · rw [List.filter_append, ← h.p]; simp [hv.2]
/-- All of v's arcs are done. -/
theorem SK.done {G : List (List Nat)} {J : List Bool} {D pre Q R P : List Nat} {v k : Nat} (h : SK G J D v k pre Q R P) (hk : (outs G v).length ≤ k) : SI G J (D ++ [v]) pre Q R P := by
  have e : (outs G v).drop k = [] := List.drop_of_length_le hk
  refine ⟨h.tr, fun w hw => ?_, fun x hx => ?_, h.q, h.r, h.nq, h.nr, h.p⟩
  · have := h.c w hw; rw [e] at this; simpa using this
  · have := h.m x hx; rw [e] at this; simpa using this
/-- One arc more. -/
theorem SK.arc {G : List (List Nat)} {J : List Bool} {D pre Q R P : List Nat} {v k w n : Nat} (h : SK G J D v k pre Q R P) (hk : (outs G v)[k]? = some w) (hw : w < G.length) (hn : pre[w]? = some n) :
    1 ≤ n ∧ w ∉ D ++ [v] ∧ w ∉ Q ∧ w ∉ R ∧ (∀ x, x < G.length → (pre.set w (n - 1))[x]? = some (cnt G (D ++ [v]) x + ((outs G v).drop (k + 1)).count x)) ∧
    (1 < n → SK G J D v (k + 1) (pre.set w (n - 1)) Q R P) ∧ (n = 1 → juncAt J w = true → SK G J D v (k + 1) (pre.set w (n - 1)) (Q ++ [w]) R P) ∧ (n = 1 → juncAt J w = false → ∀ R', R'.Perm (w :: R) → SK G J D v (k + 1) (pre.set w (n - 1)) Q R' P) := by
  have hl := (List.getElem?_eq_some_iff.mp hn).1
  have e0 : (outs G v).drop k = w :: (outs G v).drop (k + 1) := Go.Ord.drop_at hk
  have e1 := h.c w hw
  rw [hn] at e1
  injection e1 with e1
  rw [e0, List.count_cons_self] at e1
  have hwd : w ∉ D ++ [v] := h.tr.fwd h.vd (List.mem_of_getElem? hk) h.vl
  have hwQ : ¬ (w ∈ Q ∨ w ∈ R) := fun hm => by have := ((h.m w hw).1 hm).2; rw [e0, List.count_cons_self] at this; omega
  have hc : ∀ x, x < G.length → (pre.set w (n - 1))[x]? = some (cnt G (D ++ [v]) x + ((outs G v).drop (k + 1)).count x) := by
    intro x hx
    by_cases e : w = x
    · subst e
      rw [List.getElem?_set_self hl]; congr 1; omega
    · rw [List.getElem?_set_ne e, h.c x hx, e0, List.count_cons_of_ne e]
  have hm : ∀ x, x < G.length → x ≠ w → ((x ∈ Q ∨ x ∈ R) ↔ (x ∉ D ++ [v] ∧ cnt G (D ++ [v]) x + ((outs G v).drop (k + 1)).count x = 0)) := by
    intro x hx e
    have := h.m x hx
    rw [e0, List.count_cons_of_ne (Ne.symm e)] at this
    exact this
  refine ⟨by omega, hwd, fun e => hwQ (.inl e), fun e => hwQ (.inr e), hc, fun h1 => ?_, fun h1 hj => ?_, fun h1 hj R' hp => ?_⟩
  · refine ⟨h.tr, h.vd, h.vl, hc, fun x hx => ?_, h.q, h.r, h.nq, h.nr, h.p⟩
    by_cases e : x = w
    · subst e
      constructor
      · intro hm'; exact absurd hm' hwQ
      · rintro ⟨_, h3⟩; omega
    · exact hm x hx e
  · refine ⟨h.tr, h.vd, h.vl, hc, fun x hx => ?_, ?_, h.r, ?_, h.nr, h.p⟩
    · by_cases e : x = w
      · subst e
        constructor
        · intro _; exact ⟨hwd, by omega⟩
        · intro _; exact .inl (by simp)
      · have := hm x hx e
        simp only [List.mem_append, List.mem_singleton, e, or_false] at this ⊢
        exact this
    · intro x hx
      simp only [List.mem_append, List.mem_singleton] at hx
      rcases hx with hx | rfl
      · exact h.q x hx
      · exact ⟨hw, hj⟩
    · rw [List.nodup_append]
      exact ⟨h.nq, by simp, by intro a ha b hb e; simp at hb; subst hb e; exact hwQ (.inl ha)⟩
  · refine ⟨h.tr, h.vd, h.vl, hc, fun x hx => ?_, h.q, ?_, h.nq, ?_, h.p⟩
    · rw [hp.mem_iff]
      by_cases e : x = w
      · subst e
        constructor
        · intro _; exact ⟨hwd, by omega⟩
        · intro _; exact .inr (by simp)
      · have := hm x hx e
        simp only [List.mem_cons, e, false_or]
        exact this
    · intro x hx
      rcases List.mem_cons.mp (hp.subset hx) with rfl | hx
      · exact ⟨hw, hj⟩
      · exact h.r x hx
    · rw [hp.nodup_iff, List.nodup_cons]
      exact ⟨fun e => hwQ (.inr e), h.nr⟩
end Go.Proofs.YbulkctquGreatFmt

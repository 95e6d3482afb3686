/-
  newSessionPolygraph: one event more.
-/
import Derived.Test.YbulkctquGreatFmtNspI
namespace Go.Proofs.YbulkctquGreatFmt
open Go.ChangeShapes Go.WideShapes Go.ChangeAt Go.RowKit Go.Ord
set_option linter.unusedVariables false

section
variable {hs : List (List Tx)} {F : Nat → Option Wr} {A : List Rk} {zs : List Nat} {NM : Nat × Nat → Option Nat} {v e : Nat} {om sm : Nat → Option Nat} {vars vers : List Nat} {os : List Ob} {ss : List Sr} {G : List (List Nat)} {c : Nat} {x : Ev}
theorem WrD.step (hx : EvN hs A zs v e x) (y u : Nat) : WrD hs F A zs v (e + 1) y u ↔ WrD hs F A zs v e y u ∨ (u = v ∧ x.k = 1 ∧ x.x = y ∧ LastW F x) := by
  constructor
  · rintro ⟨i, z, q1, q2, q3⟩
    rcases done_step.mp q1 with q1 | ⟨rfl, rfl⟩
    · exact .inl ⟨i, z, q1, q2, q3⟩
    · have := hx.same q2; subst this; exact .inr ⟨rfl, q3⟩
  · rintro (⟨i, z, q1, q2, q3⟩ | ⟨rfl, q3⟩)
    · exact ⟨i, z, done_step.mpr (.inl q1), q2, q3⟩
    · exact ⟨e, x, done_step.mpr (.inr ⟨rfl, rfl⟩), hx, q3⟩
theorem IniD.step (hx : EvN hs A zs v e x) (y u : Nat) : IniD hs A zs v (e + 1) y u ↔ IniD hs A zs v e y u ∨ (u = v ∧ x.k = 0 ∧ x.i = true ∧ x.x = y) := by
  constructor
  · rintro ⟨i, z, q1, q2, q3⟩
    rcases done_step.mp q1 with q1 | ⟨rfl, rfl⟩
    · exact .inl ⟨i, z, q1, q2, q3⟩
    · have := hx.same q2; subst this; exact .inr ⟨rfl, q3⟩
  · rintro (⟨i, z, q1, q2, q3⟩ | ⟨rfl, q3⟩)
    · exact ⟨i, z, done_step.mpr (.inl q1), q2, q3⟩
    · exact ⟨e, x, done_step.mpr (.inr ⟨rfl, rfl⟩), hx, q3⟩
theorem RdD.step (hx : EvN hs A zs v e x) (r u : Nat) : RdD hs F A zs v (e + 1) r u ↔ RdD hs F A zs v e r u ∨ (u = v ∧ x.k = 0 ∧ x.i = false ∧ x.v = r ∧ ¬ OwnV F A zs u r) := by
  constructor
  · rintro ⟨⟨i, z, q1, q2, q3, q4, q5⟩, q6⟩
    rcases done_step.mp q1 with q1 | ⟨rfl, rfl⟩
    · exact .inl ⟨⟨i, z, q1, q2, q3, q4, q5⟩, q6⟩
    · have := hx.same q2; subst this; exact .inr ⟨rfl, q3, q4, q5, q6⟩
  · rintro (⟨⟨i, z, q1, q2, q3⟩, q6⟩ | ⟨rfl, q3, q4, q5, q6⟩)
    · exact ⟨⟨i, z, done_step.mpr (.inl q1), q2, q3⟩, q6⟩
    · exact ⟨⟨e, x, done_step.mpr (.inr ⟨rfl, rfl⟩), hx, q3, q4, q5⟩, q6⟩
/-- An event that adds nothing. -/
theorem EI.pass (h : EI hs F A zs NM v e om sm vars vers os ss G c) (hx : EvN hs A zs v e x) {n : Nat} (hn : om x.x = some n) (h1 : x.k = 1 → ¬ LastW F x) (h2 : x.k = 0 → x.i = true → IniD hs A zs v e x.x v) (h3 : x.k = 0 → x.i = false → ¬ OwnV F A zs v x.v → RdD hs F A zs v e x.v v) : EI hs F A zs NM v (e + 1) om sm vars vers os ss G c := by
  refine ⟨h.omI, h.lenO, fun m o y q1 q2 => ?_, fun u i z q1 q2 => ?_, h.smI, h.lenS, fun k s r q1 q2 => ?_, fun u i z q1 q2 q3 q4 q5 => ?_, h.arcs, h.lenG, h.wtG, h.numO, h.numS⟩
  · obtain ⟨a1, a2, a3, a4, a5⟩ := h.obI m o y q1 q2
    refine ⟨fun u => ?_, a2, fun u => ?_, a4, a5⟩
    · rw [a1, WrD.step hx]
      exact ⟨.inl, fun q => q.elim id (fun q => absurd q.2.2.2 (h1 q.2.1))⟩
    · rw [a3, IniD.step hx]
      exact ⟨.inl, fun q => q.elim id (fun q => by obtain ⟨rfl, w1, w2, rfl⟩ := q; exact h2 w1 w2)⟩
  · rcases done_step.mp q1 with q1 | ⟨rfl, rfl⟩
    · exact h.known u i z q1 q2
    · have := hx.same q2; subst this; exact ⟨n, hn⟩
  · obtain ⟨a1, a2, a3⟩ := h.srI k s r q1 q2
    refine ⟨a1, fun u => ?_, a3⟩
    rw [a2, RdD.step hx]
    exact ⟨.inl, fun q => q.elim id (fun q => by obtain ⟨rfl, w1, w2, rfl, w3⟩ := q; exact h3 w1 w2 w3)⟩
  · rcases done_step.mp q1 with q1 | ⟨rfl, rfl⟩
    · exact h.all u i z q1 q2 q3 q4 q5
    · have := hx.same q2; subst this
      obtain ⟨⟨i, z, w1, w2, w3, w4, w5⟩, w6⟩ := h3 q3 q4 q5
      rw [← w5] at w6 ⊢
      exact h.all _ i z w1 w2 w3 w4 w6
/-- One row of one object turned, for the event's own variable. -/
theorem EI.objT (h : EI hs F A zs NM v e om sm vars vers os ss G c) (hx : EvN hs A zs v e x) {n : Nat} (hn : om x.x = some n) {o o' : Ob} (ho : os[n]? = some o) (hr : ¬ (x.k = 0 ∧ x.i = false))
    (g1 : ∀ u, u ∈ o'.wr ↔ u ∈ o.wr ∨ (u = v ∧ x.k = 1 ∧ LastW F x)) (g2 : o'.wr.Nodup) (g3 : ∀ u, u ∈ o'.ini ↔ u ∈ o.ini ∨ (u = v ∧ x.k = 0 ∧ x.i = true)) (g4 : o'.ini.Nodup) (g5 : o'.rk.length = o'.wr.length) :
    EI hs F A zs NM v (e + 1) om sm vars vers (os.set n o') ss G c := by
  have hv := (h.omI x.x n).mp hn
  refine ⟨h.omI, by simpa using h.lenO, fun m oo y q1 q2 => ?_, fun u i z q1 q2 => ?_, h.smI, h.lenS, fun k s r q1 q2 => ?_, fun u i z q1 q2 q3 q4 q5 => ?_, h.arcs, h.lenG, h.wtG, by simpa using h.numO, h.numS⟩
  · by_cases cm : n = m
    · subst cm
      rw [List.getElem?_set_self (List.getElem?_eq_some_iff.mp ho).1] at q1
      injection q1 with q1
      subst q1
      rw [hv] at q2
      injection q2 with q2
      subst q2
      obtain ⟨a1, a2, a3, a4, a5⟩ := h.obI n o x.x ho hv
      refine ⟨fun u => ?_, g2, fun u => ?_, g4, g5⟩
      · rw [g1, a1, WrD.step hx]; simp
      · rw [g3, a3, IniD.step hx]; simp
    · rw [List.getElem?_set_ne cm] at q1
      have hny : x.x ≠ y := fun z => by
        subst z
        have := (h.omI x.x m).mpr q2
        rw [hn] at this; injection this with this; exact cm this
      obtain ⟨a1, a2, a3, a4, a5⟩ := h.obI m oo y q1 q2
      refine ⟨fun u => ?_, a2, fun u => ?_, a4, a5⟩
      · rw [a1, WrD.step hx]; simp [hny]
      · rw [a3, IniD.step hx]; simp [hny]
  · rcases done_step.mp q1 with q1 | ⟨rfl, rfl⟩
    · exact h.known u i z q1 q2
    · have := hx.same q2; subst this; exact ⟨n, hn⟩
  · obtain ⟨a1, a2, a3⟩ := h.srI k s r q1 q2
    refine ⟨a1, fun u => ?_, a3⟩
    rw [a2, RdD.step hx]
    exact ⟨.inl, fun q => q.elim id (fun q => absurd ⟨q.2.1, q.2.2.1⟩ hr)⟩
  · rcases done_step.mp q1 with q1 | ⟨rfl, rfl⟩
    · exact h.all u i z q1 q2 q3 q4 q5
    · have := hx.same q2; subst this; exact absurd ⟨q3, q4⟩ hr
/-- One more source. -/
theorem EI.src (h : EI hs F A zs NM v e om sm vars vers os ss G c) {r : Nat} (hr : sm r = none) {q : Wr} {z : Ev} {s : Sr} (hq : F r = some q) (hw : NM (q.s, q.k) = some s.wr) (hz : At hs q.s q.k q.e z) (hz1 : z.k = 1) (hz2 : z.v = r) (hz3 : vars[s.ob]? = some z.x) (hqn : q.n < 0) (hs0 : s.rd = []) :
    EI hs F A zs NM v e om (fun y => if y = r then some ss.length else sm y) vars (vers ++ [r]) os (ss ++ [s]) G (c + 1) := by
  have hlen := h.lenS
  have hny : ∀ x, vers[x]? ≠ some r := fun x hx => by have := (h.smI r x).mpr hx; rw [hr] at this; cases this
  refine ⟨h.omI, h.lenO, h.obI, h.known, fun y m => ?_, by simp [hlen], fun k s' y h1 h2 => ?_, fun u i x h1 h2 h3 h4 h5 => ?_, fun u x => ?_, h.lenG, Nat.le_trans h.wtG (Nat.le_succ _), h.numO, by simpa using h.numS⟩
  · by_cases cz : y = r
    · subst cz
      simp only [if_true]
      constructor
      · intro q; injection q with q; subst q; rw [← hlen]; simp
      · intro q
        by_cases cx : m < vers.length
        · rw [List.getElem?_append_left cx] at q; exact absurd q (hny m)
        · have := (List.getElem?_eq_some_iff.mp q).1
          simp at this
          rw [show m = ss.length by omega]
    · simp only [if_neg cz]
      rw [h.smI y m]
      by_cases cx : m < vers.length
      · rw [List.getElem?_append_left cx]
      · rw [List.getElem?_eq_none (by omega)]
        constructor
        · intro q; cases q
        · intro q
          have hl := (List.getElem?_eq_some_iff.mp q).1
          simp at hl
          rw [show m = vers.length by omega] at q
          simp at q
          exact absurd q.symm cz
  · by_cases cx : k < vers.length
    · rw [List.getElem?_append_left (by omega)] at h1
      rw [List.getElem?_append_left cx] at h2
      exact h.srI k s' y h1 h2
    · have hl := (List.getElem?_eq_some_iff.mp h2).1
      simp at hl
      have ex : k = vers.length := by omega
      rw [ex] at h2
      simp at h2
      subst h2
      rw [ex, hlen] at h1
      simp at h1
      subst h1
      refine ⟨⟨q, z, hq, hw, hz, hz1, hz2, hz3, hqn⟩, fun u => ⟨fun w => by rw [hs0] at w; simp at w, fun w => ?_⟩, by rw [hs0]; simp⟩
      obtain ⟨⟨i, ev, w1, w2, w3, w4, w5⟩, w6⟩ := w
      rw [← w5] at w6
      obtain ⟨k', hk'⟩ := h.all u i ev w1 w2 w3 w4 w6
      rw [w5, hr] at hk'; cases hk'
  · obtain ⟨k, hk⟩ := h.all u i x h1 h2 h3 h4 h5
    by_cases cz : x.v = r
    · exact ⟨ss.length, by simp [cz]⟩
    · exact ⟨k, by simp [cz, hk]⟩
  · rw [h.arcs u x]
    constructor
    · rintro ⟨k, s', w1, w2, w3⟩
      exact ⟨k, s', by rw [List.getElem?_append_left (List.getElem?_eq_some_iff.mp w1).1]; exact w1, w2, w3⟩
    · rintro ⟨k, s', w1, w2, w3⟩
      by_cases ck : k < ss.length
      · rw [List.getElem?_append_left ck] at w1; exact ⟨k, s', w1, w2, w3⟩
      · have hl := (List.getElem?_eq_some_iff.mp w1).1
        simp at hl
        rw [show k = ss.length by omega] at w1
        simp at w1
        subst w1
        rw [hs0] at w3; simp at w3
/-- One more reader. -/
theorem EI.rd (h : EI hs F A zs NM v e om sm vars vers os ss G c) (hx : EvN hs A zs v e x) {n : Nat} (hn : om x.x = some n) (hk : x.k = 0) (hi : x.i = false) (ho : ¬ OwnV F A zs v x.v) {k : Nat} (hsm : sm x.v = some k) {s : Sr} (hsk : ss[k]? = some s) (hnv : v ∉ s.rd) (hwl : s.wr < G.length) :
    EI hs F A zs NM v (e + 1) om sm vars vers os (ss.set k { s with rd := s.rd ++ [v] }) (arc G s.wr v) (c + 1) := by
  have hv := (h.smI x.v k).mp hsm
  have hkl := (List.getElem?_eq_some_iff.mp hsk).1
  refine ⟨h.omI, h.lenO, fun m o y q1 q2 => ?_, fun u i z q1 q2 => ?_, h.smI, by simpa using h.lenS, fun m s' r q1 q2 => ?_, fun u i z q1 q2 q3 q4 q5 => ?_, fun u y => ?_, by rw [arc_len]; exact h.lenG, by rw [wt_arc G s.wr v hwl]; have := h.wtG; omega, h.numO, by simp only [List.length_set]; exact Nat.le_trans h.numS (Nat.le_succ _)⟩
  · obtain ⟨a1, a2, a3, a4, a5⟩ := h.obI m o y q1 q2
    refine ⟨fun u => ?_, a2, fun u => ?_, a4, a5⟩
    · rw [a1, WrD.step hx]; simp [hk]
    · rw [a3, IniD.step hx]; simp [hi]
  · rcases done_step.mp q1 with q1 | ⟨rfl, rfl⟩
    · exact h.known u i z q1 q2
    · have := hx.same q2; subst this; exact ⟨n, hn⟩
  · by_cases cm : k = m
    · subst cm
      rw [List.getElem?_set_self hkl] at q1
      injection q1 with q1
      subst q1
      rw [hv] at q2
      injection q2 with q2
      subst q2
      obtain ⟨a1, a2, a3⟩ := h.srI k s x.v hsk hv
      refine ⟨a1, fun u => ?_, ?_⟩
      · rw [RdD.step hx, ← a2]
        simp only [List.mem_append, List.mem_singleton]
        exact ⟨fun w => w.elim .inl (fun w => .inr ⟨w, hk, hi, trivial, by rw [w]; exact ho⟩), fun w => w.elim .inl (fun w => .inr w.1)⟩
      · rw [List.pairwise_append]
        refine ⟨a3, by simp, fun u hu y hy => ?_⟩
        simp at hy
        subst hy
        obtain ⟨⟨i, z, w1, _⟩, _⟩ := (a2 u).mp hu
        have : u ≠ y := fun w => hnv (w ▸ hu)
        unfold Done at w1
        omega
    · rw [List.getElem?_set_ne cm] at q1
      have hny : x.v ≠ r := fun z => by
        subst z
        have := (h.smI x.v m).mpr q2
        rw [hsm] at this; injection this with this; exact cm this
      obtain ⟨a1, a2, a3⟩ := h.srI m s' r q1 q2
      refine ⟨a1, fun u => ?_, a3⟩
      rw [a2, RdD.step hx]; simp [hny]
  · rcases done_step.mp q1 with q1 | ⟨rfl, rfl⟩
    · exact h.all u i z q1 q2 q3 q4 q5
    · have := hx.same q2; subst this; exact ⟨k, hsm⟩
  · have old := h.arcs u y
    obtain ⟨r0, hr0⟩ := has_at G hwl
    have er : G.getD s.wr [] = r0 := by simp [hr0]
    constructor
    · rintro ⟨r, w1, w2⟩
      unfold arc at w1
      by_cases cu : s.wr = u
      · subst cu
        rw [List.getElem?_set_self hwl, er] at w1
        injection w1 with w1
        subst w1
        rcases List.mem_append.mp w2 with w2 | w2
        · obtain ⟨m, s', z1, z2, z3⟩ := old.mp ⟨r0, hr0, w2⟩
          by_cases cm : k = m
          · subst cm
            rw [hsk] at z1; cases z1
            exact ⟨k, _, List.getElem?_set_self hkl, rfl, by simp [z3]⟩
          · exact ⟨m, s', by rw [List.getElem?_set_ne cm]; exact z1, z2, z3⟩
        · simp at w2
          subst w2
          exact ⟨k, _, List.getElem?_set_self hkl, rfl, by simp⟩
      · rw [List.getElem?_set_ne cu] at w1
        obtain ⟨m, s', z1, z2, z3⟩ := old.mp ⟨r, w1, w2⟩
        by_cases cm : k = m
        · subst cm
          rw [hsk] at z1; cases z1
          exact absurd z2 cu
        · exact ⟨m, s', by rw [List.getElem?_set_ne cm]; exact z1, z2, z3⟩
    · rintro ⟨m, s', z1, z2, z3⟩
      by_cases cm : k = m
      · subst cm
        rw [List.getElem?_set_self hkl] at z1
        injection z1 with z1
        subst z1
        simp only at z2 z3
        subst z2
        refine ⟨r0 ++ [v], by unfold arc; rw [List.getElem?_set_self hwl, er], ?_⟩
        rcases List.mem_append.mp z3 with z3 | z3
        · obtain ⟨r, w1, w2⟩ := old.mpr ⟨k, s, hsk, rfl, z3⟩
          rw [hr0] at w1; cases w1
          simp [w2]
        · simp at z3; simp [z3]
      · rw [List.getElem?_set_ne cm] at z1
        obtain ⟨r, w1, w2⟩ := old.mpr ⟨m, s', z1, z2, z3⟩
        by_cases cu : s.wr = u
        · subst cu
          rw [hr0] at w1; cases w1
          exact ⟨r0 ++ [v], by unfold arc; rw [List.getElem?_set_self hwl, er], by simp [w2]⟩
        · exact ⟨r, by unfold arc; rw [List.getElem?_set_ne cu]; exact w1, w2⟩
end
end Go.Proofs.YbulkctquGreatFmt

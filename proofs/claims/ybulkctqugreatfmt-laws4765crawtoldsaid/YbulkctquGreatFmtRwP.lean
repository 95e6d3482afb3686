/-
  Plainly: the polygraph of any history that breaks no rule and holds no misread.
-/
import Derived.Test.YbulkctquGreatFmtCauP
import Derived.Test.YbulkctquGreatFmtFa
import Derived.Test.YbulkctquGreatFmtVrP
namespace Go.Proofs.YbulkctquGreatFmt
open Go.ChangeShapes Go.WideShapes Go.ChangeAt Go.RowKit Go.Ord
set_option linter.unusedVariables false

section
variable {hs : List (List Tx)} {F : Nat → Option Wr} {A : List Rk} {zs : List Nat} {NM : Nat × Nat → Option Nat} {vars vers : List Nat} {os : List Ob} {ss : List Sr} {fa : List Int} {ows G : List (List Nat)} {J : List Bool}
/-- A source, its write and its readers. -/
theorem NP.srcR (N : NP hs F A zs NM vars vers os ss fa ows G J) (O : HOk hs) {k : Nat} {s : Sr} (hk : ss[k]? = some s) :
    ∃ (r : Nat) (q : Wr) (x : Ev), vers[k]? = some r ∧ F r = some q ∧ (ats A zs)[s.wr]? = some (q.s, q.k) ∧ s.wr < A.length ∧ At hs q.s q.k q.e x ∧ x.k = 1 ∧ x.v = r ∧ vars[s.ob]? = some x.x ∧ q.n < 0 ∧ s.rd.Pairwise (· < ·) ∧
      ∀ t ∈ s.rd, t ≠ s.wr ∧ ∃ (p : Nat × Nat) (i : Nat) (v : Ev), t < A.length ∧ (ats A zs)[t]? = some p ∧ At hs p.1 p.2 i v ∧ v.k = 0 ∧ v.i = false ∧ v.v = r ∧ v.x = x.x := by
  obtain ⟨om, sm, c, Ge, G0, E, _⟩ := N.ei
  obtain ⟨r, hr⟩ := has_at vers (k := k) (by rw [E.lenS]; exact (List.getElem?_eq_some_iff.mp hk).1)
  obtain ⟨⟨q, x, a1, a2, a3, a4, a5, a6, a7⟩, b1, b2⟩ := E.srI k s r hk hr
  obtain ⟨n1, n2⟩ := N.nmi.fwd _ _ a2
  refine ⟨r, q, x, hr, a1, n2, n1, a3, a4, a5, a6, a7, b2, fun t ht => ?_⟩
  obtain ⟨⟨i, v, c1, ⟨p, c2, c3⟩, c4, c5, c6⟩, c7⟩ := (b1 t).mp ht
  refine ⟨fun e => c7 ⟨q, a1, by rw [e]; exact n2⟩, p, i, v, evN_lt N.hp ⟨p, c2, c3⟩, c2, c3, c4, c5, c6, ?_⟩
  obtain ⟨s', k', e', x', d1, d2, d3, d4⟩ := O.reads _ _ _ _ c3 c4 c5
  obtain ⟨rfl, rfl, rfl⟩ := O.uniq _ _ _ _ _ _ _ _ d1 a3 d2 a4 (by omega)
  have := d1.same a3
  subst this
  exact d4.symm
/-- What an arc stands for. -/
def RR (hs : List (List Tx)) (F : Nat → Option Wr) (A : List Rk) (zs : List Nat) (x y : Nat) : Prop := x ≠ y ∧ ∃ p q, (ats A zs)[x]? = some p ∧ (ats A zs)[y]? = some q ∧ Cause hs F p q
theorem NP.dirW (N : NP hs F A zs NM vars vers os ss fa ows G J) (O : HOk hs) {k : Nat} {s : Sr} (hk : ss[k]? = some s) {t : Nat} (ht : t ∈ s.rd) {p q : Nat × Nat} (hp : (ats A zs)[s.wr]? = some p) (hq : (ats A zs)[t]? = some q) : Dir hs F p q := by
  obtain ⟨r, w, x, a1, a2, a3, a4, a5, a6, a7, a8, a9, a10, a11⟩ := N.srcR O hk
  obtain ⟨_, p', i, v, b1, b2, b3, b4, b5, b6, b7⟩ := a11 t ht
  rw [a3] at hp; injection hp with hp; subst hp
  rw [b2] at hq; injection hq with hq; subst hq
  exact .inr ⟨i, v, w, b3, b4, b5, by rw [b6]; exact a2, rfl, rfl⟩
theorem NP.cau (N : NP hs F A zs NM vars vers os ss fa ows G J) (O : HOk hs) : Cau A.length (RR hs F A zs) G J := by
  obtain ⟨om, sm, c, Ge, G0, E, GA0, eG, eJ, _⟩ := N.ei
  have hl0 := GA0.len
  have hat : ∀ {x : Nat} {p : Nat × Nat}, (ats A zs)[x]? = some p → x < A.length := fun h => by have := (List.getElem?_eq_some_iff.mp h).1; rw [ats_len N.hp] at this; exact this
  have base : Cau A.length (RR hs F A zs) G0 (List.replicate A.length false) := by
    have key : ∀ u x, Arc G0 u x → x < A.length ∧ u < A.length ∧ RR hs F A zs u x := fun u x h => by
      rcases (GA0.arcs u x).mp h with h | h
      · obtain ⟨k, s, h1, h2, h3⟩ := (E.arcs u x).mp h
        obtain ⟨r, w, y, a1, a2, a3, a4, a5, a6, a7, a8, a9, a10, a11⟩ := N.srcR O h1
        obtain ⟨b0, p', i, v, b1, b2, b3, b4, b5, b6, b7⟩ := a11 x h3
        subst h2
        exact ⟨b1, a4, fun e => b0 e.symm, _, _, a3, b2, .inl (N.dirW O h1 h3 a3 b2)⟩
      · obtain ⟨a, b, c', d1, d2, d3, d4⟩ := h
        refine ⟨hat d2, hat d1, fun e => ?_, (a, b), (a, c'), d1, d2, .inl (.inl ⟨rfl, d3⟩)⟩
        subst e
        rw [d1] at d2; injection d2 with d2; injection d2 with d2 d2'; omega
    refine ⟨by omega, by simp [hl0], fun v hv => ?_, fun v h1 h2 => by omega, fun u x h => ?_, fun t j u h1 h2 h3 => ?_⟩
    · simp [juncAt, List.getD_eq_getElem?_getD, hv]
    · obtain ⟨q1, q2, q3⟩ := key u x h
      exact ⟨by omega, fun _ _ => q3, fun h => by omega⟩
    · obtain ⟨q1, _⟩ := key t j h1
      omega
  rw [eG, eJ]
  refine (base.init os _ _ (fun o ho => ?_)).over ss ows _ _ (fun k s r hk hr => ?_)
  · obtain ⟨x, hx⟩ := List.getElem?_of_mem ho
    obtain ⟨y, hy, n1, n2, n3, w1, i1⟩ := N.obj hx
    refine ⟨fun t ht => ?_, fun t ht => ?_, n2, fun t ht u hu hne => ?_⟩
    · obtain ⟨_, _, _, h, _⟩ := i1 t ht; exact h
    · obtain ⟨_, _, _, h, _⟩ := w1 t ht; exact h
    · obtain ⟨p, i, v, p1, p2, p3, p4, p5, p6⟩ := i1 t ht
      obtain ⟨q, i', v', q1, q2, q3, q4, q5⟩ := w1 u hu
      exact ⟨hne, p, q, p2, q2, .inr (.inl ⟨i, v, p3, p4, p5, i', v', q3, q4, by omega⟩)⟩
  · obtain ⟨rv, w, x, a1, a2, a3, a4, a5, a6, a7, a8, a9, a10, a11⟩ := N.srcR O hk
    obtain ⟨_, hrow⟩ := N.owf.row k r hr
    have over : ∀ u ∈ r, ∃ q, (ats A zs)[u]? = some q ∧ (w.s, w.k) ≠ q ∧ Dir hs F (w.s, w.k) q ∧ ∃ e' y, At hs q.1 q.2 e' y ∧ y.k = 1 ∧ y.x = x.x := fun u hu => by
      rcases hrow u hu with ⟨i, h1, h2, h3⟩ | ⟨h1, s', o, h2, h3, h4, k', s2, h5, h6, h7⟩
      · rcases N.faI k i h1 with h | ⟨y, h4, h5⟩
        · omega
        · have : u = y := by omega
          subst this
          obtain ⟨_, sj, a, b, c', g1, g2, g3, g4, e', x', g5, g6, g7⟩ := h5
          rw [hk] at g1; injection g1 with g1; subst g1
          rw [a3] at g2; injection g2 with g2; injection g2 with g2 g2'
          subst g2; subst g2'
          refine ⟨(w.s, c'), g3, fun e => ?_, .inl ⟨rfl, g4⟩, e', x', g5, g6, ?_⟩
          · injection e with _ e; omega
          · rw [a8] at g7; injection g7 with g7; exact g7.symm
      · rw [hk] at h2; injection h2 with h2; subst h2
        obtain ⟨y, hy, _, _, _, w1, _⟩ := N.obj h3
        obtain ⟨q, i', v', q1, q2, q3, q4, q5⟩ := w1 u h4
        refine ⟨q, q2, fun e => ?_, ?_, i', v', q3, q4, ?_⟩
        · obtain ⟨_, _, _, _, _, _, _, _, _, _, _, _, _, z⟩ := N.srcR O h5
          refine (z u h7).1 ?_
          rw [h6]
          rw [← e] at q2
          exact ats_inj N.hA N.hp q2 a3
        · have := N.dirW O h5 h7 (p := (w.s, w.k)) (q := q) (by rw [h6]; exact a3) q2
          exact this
        · rw [a8] at hy; injection hy with hy; omega
    refine ⟨fun t ht => ?_, fun t ht => ?_, ?_, fun t ht u hu hne => ?_⟩
    · obtain ⟨_, _, _, _, h, _⟩ := a11 t ht; exact h
    · obtain ⟨q, h, _⟩ := over t ht; exact hat h
    · rw [List.nodup_iff_pairwise_ne]; exact a10.imp (fun h => by omega)
    · obtain ⟨_, p, i, v, b1, b2, b3, b4, b5, b6, b7⟩ := a11 t ht
      obtain ⟨q, c1, c2, c3, e', y, c4, c5, c6⟩ := over u hu
      exact ⟨hne, p, q, b2, c1, .inr (.inr ⟨i, v, b3, b4, b5, w, by rw [b6]; exact a2, c2, c3, e', y, c4, c5, by omega⟩)⟩
theorem RR.irr (x : Nat) : ¬ RR hs F A zs x x := fun h => h.1 rfl
end
end Go.Proofs.YbulkctquGreatFmt

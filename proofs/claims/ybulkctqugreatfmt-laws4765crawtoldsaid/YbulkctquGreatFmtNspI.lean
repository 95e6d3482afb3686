/-
  What newSessionPolygraph's objects, sources and arcs say, while it walks the events.
-/
import Derived.Test.YbulkctquGreatFmtNspH
namespace Go.Proofs.YbulkctquGreatFmt
open Go.ChangeShapes Go.WideShapes Go.ChangeAt Go.RowKit Go.Ord
set_option linter.unusedVariables false

/-- Event i of node u. -/
def EvN (hs : List (List Tx)) (A : List Rk) (zs : List Nat) (u i : Nat) (x : Ev) : Prop := ∃ p : Nat × Nat, (ats A zs)[u]? = some p ∧ At hs p.1 p.2 i x
def Done (v e u i : Nat) : Prop := u < v ∨ (u = v ∧ i < e)
theorem EvN.same {hs : List (List Tx)} {A : List Rk} {zs : List Nat} {u i : Nat} {x x' : Ev} (h : EvN hs A zs u i x) (h' : EvN hs A zs u i x') : x = x' := by
  obtain ⟨p, h1, h2⟩ := h
  obtain ⟨p', h1', h2'⟩ := h'
  rw [h1] at h1'; cases h1'
  exact h2.same h2'
def LastW (F : Nat → Option Wr) (x : Ev) : Prop := ∃ q, F x.v = some q ∧ q.n < 0
def OwnV (F : Nat → Option Wr) (A : List Rk) (zs : List Nat) (u r : Nat) : Prop := ∃ q, F r = some q ∧ (ats A zs)[u]? = some (q.s, q.k)
/-- Which nodes write a variable, read its initial value, read a version, by what is done. -/
def WrD (hs : List (List Tx)) (F : Nat → Option Wr) (A : List Rk) (zs : List Nat) (v e y u : Nat) : Prop := ∃ i x, Done v e u i ∧ EvN hs A zs u i x ∧ x.k = 1 ∧ x.x = y ∧ LastW F x
def IniD (hs : List (List Tx)) (A : List Rk) (zs : List Nat) (v e y u : Nat) : Prop := ∃ i x, Done v e u i ∧ EvN hs A zs u i x ∧ x.k = 0 ∧ x.i = true ∧ x.x = y
def RdD (hs : List (List Tx)) (F : Nat → Option Wr) (A : List Rk) (zs : List Nat) (v e r u : Nat) : Prop := (∃ i x, Done v e u i ∧ EvN hs A zs u i x ∧ x.k = 0 ∧ x.i = false ∧ x.v = r) ∧ ¬ OwnV F A zs u r
structure EI (hs : List (List Tx)) (F : Nat → Option Wr) (A : List Rk) (zs : List Nat) (NM : Nat × Nat → Option Nat) (v e : Nat) (om sm : Nat → Option Nat) (vars vers : List Nat) (os : List Ob) (ss : List Sr) (G : List (List Nat)) (c : Nat) : Prop where
  omI : ∀ y x, om y = some x ↔ vars[x]? = some y
  lenO : vars.length = os.length
  obI : ∀ (x : Nat) (o : Ob) (y : Nat), os[x]? = some o → vars[x]? = some y → (∀ u, u ∈ o.wr ↔ WrD hs F A zs v e y u) ∧ o.wr.Nodup ∧ (∀ u, u ∈ o.ini ↔ IniD hs A zs v e y u) ∧ o.ini.Nodup ∧ o.rk.length = o.wr.length
  known : ∀ (u i : Nat) (x : Ev), Done v e u i → EvN hs A zs u i x → ∃ n, om x.x = some n
  smI : ∀ r k, sm r = some k ↔ vers[k]? = some r
  lenS : vers.length = ss.length
  srI : ∀ (k : Nat) (s : Sr) (r : Nat), ss[k]? = some s → vers[k]? = some r → (∃ q x, F r = some q ∧ NM (q.s, q.k) = some s.wr ∧ At hs q.s q.k q.e x ∧ x.k = 1 ∧ x.v = r ∧ vars[s.ob]? = some x.x ∧ q.n < 0) ∧ (∀ u, u ∈ s.rd ↔ RdD hs F A zs v e r u) ∧ s.rd.Pairwise (· < ·)
  all : ∀ (u i : Nat) (x : Ev), Done v e u i → EvN hs A zs u i x → x.k = 0 → x.i = false → ¬ OwnV F A zs u x.v → ∃ k, sm x.v = some k
  arcs : ∀ u x, (∃ r, G[u]? = some r ∧ x ∈ r) ↔ ∃ (k : Nat) (s : Sr), ss[k]? = some s ∧ s.wr = u ∧ x ∈ s.rd
  lenG : G.length = A.length
  wtG : wt G ≤ c
  numO : ∀ y ∈ vars, y < 900
  numS : ss.length ≤ c
/-- Nothing of what is asked turns at an event that is passed over. -/
theorem done_step {v e u i : Nat} : Done v (e + 1) u i ↔ Done v e u i ∨ (u = v ∧ i = e) := by unfold Done; omega
theorem not_done {v e u i : Nat} (h : Done v e u i) (h1 : u = v) (h2 : i = e) : False := by unfold Done at h; omega
theorem EI.start (hs : List (List Tx)) (F : Nat → Option Wr) (A : List Rk) (zs : List Nat) (NM : Nat × Nat → Option Nat) : EI hs F A zs NM 0 0 (fun _ => none) (fun _ => none) [] [] [] [] (List.replicate A.length []) 0 := by
  refine ⟨fun y x => by simp, rfl, fun x o y h => by simp at h, fun u i x h => by unfold Done at h; omega, fun r k => by simp, rfl, fun k s r h => by simp at h, fun u i x h => by unfold Done at h; omega, fun u x => ?_, by simp, by simp [wt], by simp, by simp⟩
  constructor
  · rintro ⟨r, h1, h2⟩
    obtain ⟨_, rfl⟩ := List.mem_replicate.mp (List.mem_of_getElem? h1)
    simp at h2
  · rintro ⟨k, s, h, _⟩
    simp at h
section
variable {hs : List (List Tx)} {F : Nat → Option Wr} {A : List Rk} {zs : List Nat} {NM : Nat × Nat → Option Nat} {v e : Nat} {om sm : Nat → Option Nat} {vars vers : List Nat} {os : List Ob} {ss : List Sr} {G : List (List Nat)} {c : Nat}
theorem EI.up (h : EI hs F A zs NM v e om sm vars vers os ss G c) {c' : Nat} (hc : c ≤ c') : EI hs F A zs NM v e om sm vars vers os ss G c' :=
  ⟨h.omI, h.lenO, h.obI, h.known, h.smI, h.lenS, h.srI, h.all, h.arcs, h.lenG, Nat.le_trans h.wtG hc, h.numO, Nat.le_trans h.numS hc⟩
/-- One more object. -/
theorem EI.obj (h : EI hs F A zs NM v e om sm vars vers os ss G c) {y : Nat} (hy : om y = none) (hy9 : y < 900) : EI hs F A zs NM v e (fun z => if z = y then some os.length else om z) sm (vars ++ [y]) vers (os ++ [⟨[], [], []⟩]) ss G (c + 1) := by
  have hlen := h.lenO
  have hny : ∀ x, vars[x]? ≠ some y := fun x hx => by have := (h.omI y x).mpr hx; rw [hy] at this; cases this
  refine ⟨fun z x => ?_, by simp [hlen], fun x o z hx hz => ?_, fun u i x h1 h2 => ?_, h.smI, h.lenS, fun k s r h1 h2 => ?_, h.all, h.arcs, h.lenG, Nat.le_trans h.wtG (Nat.le_succ _), (fun q hq => by simp at hq; rcases hq with hq | rfl; exact h.numO q hq; exact hy9), Nat.le_trans h.numS (Nat.le_succ _)⟩
  · by_cases cz : z = y
    · subst cz
      simp only [if_true]
      constructor
      · intro q; injection q with q; subst q; rw [← hlen]; simp
      · intro q
        by_cases cx : x < vars.length
        · rw [List.getElem?_append_left cx] at q; exact absurd q (hny x)
        · have := (List.getElem?_eq_some_iff.mp q).1
          simp at this
          rw [show x = os.length by omega]
    · simp only [if_neg cz]
      rw [h.omI z x]
      by_cases cx : x < vars.length
      · rw [List.getElem?_append_left cx]
      · rw [List.getElem?_eq_none (by omega)]
        constructor
        · intro q; cases q
        · intro q
          have hl := (List.getElem?_eq_some_iff.mp q).1
          simp at hl
          rw [show x = vars.length by omega] at q
          simp at q
          exact absurd q.symm cz
  · by_cases cx : x < vars.length
    · rw [List.getElem?_append_left (by omega)] at hx
      rw [List.getElem?_append_left cx] at hz
      exact h.obI x o z hx hz
    · have hl := (List.getElem?_eq_some_iff.mp hz).1
      simp at hl
      have ex : x = vars.length := by omega
      rw [ex] at hz
      simp at hz
      subst hz
      rw [ex, hlen] at hx
      simp at hx
      subst hx
      refine ⟨fun u => ⟨fun q => by simp at q, fun q => ?_⟩, by simp, fun u => ⟨fun q => by simp at q, fun q => ?_⟩, by simp, rfl⟩
      · obtain ⟨i, ev, q1, q2, q3, q4, _⟩ := q
        obtain ⟨n, hn⟩ := h.known u i ev q1 q2
        rw [q4, hy] at hn; cases hn
      · obtain ⟨i, ev, q1, q2, q3, q4, q5⟩ := q
        obtain ⟨n, hn⟩ := h.known u i ev q1 q2
        rw [q5, hy] at hn; cases hn
  · obtain ⟨n, hn⟩ := h.known u i x h1 h2
    by_cases cz : x.x = y
    · exact ⟨os.length, by simp [cz]⟩
    · exact ⟨n, by simp [cz, hn]⟩
  · obtain ⟨⟨q, x, a1, a2, a3, a4, a5, a6, a7⟩, b, d⟩ := h.srI k s r h1 h2
    refine ⟨⟨q, x, a1, a2, a3, a4, a5, ?_, a7⟩, b, d⟩
    rw [List.getElem?_append_left (List.getElem?_eq_some_iff.mp a6).1]
    exact a6
/-- The next node. -/
theorem EI.next (h : EI hs F A zs NM v e om sm vars vers os ss G c) (he : ∀ (i : Nat) (x : Ev), EvN hs A zs v i x → i < e) : EI hs F A zs NM (v + 1) 0 om sm vars vers os ss G c := by
  have key : ∀ (u i : Nat) (x : Ev), EvN hs A zs u i x → (Done (v + 1) 0 u i ↔ Done v e u i) := by
    intro u i x hx
    unfold Done
    constructor
    · intro q
      by_cases cu : u = v
      · subst cu; exact .inr ⟨rfl, he i x hx⟩
      · exact .inl (by omega)
    · intro q; exact .inl (by omega)
  refine ⟨h.omI, h.lenO, fun x o y h1 h2 => ?_, fun u i x h1 h2 => h.known u i x ((key u i x h2).mp h1) h2, h.smI, h.lenS, fun k s r h1 h2 => ?_, fun u i x h1 h2 => h.all u i x ((key u i x h2).mp h1) h2, h.arcs, h.lenG, h.wtG, h.numO, h.numS⟩
  · obtain ⟨a1, a2, a3, a4, a5⟩ := h.obI x o y h1 h2
    refine ⟨fun u => (a1 u).trans ?_, a2, fun u => (a3 u).trans ?_, a4, a5⟩
    · constructor
      · rintro ⟨i, x, q1, q2, q3⟩; exact ⟨i, x, (key u i x q2).mpr q1, q2, q3⟩
      · rintro ⟨i, x, q1, q2, q3⟩; exact ⟨i, x, (key u i x q2).mp q1, q2, q3⟩
    · constructor
      · rintro ⟨i, x, q1, q2, q3⟩; exact ⟨i, x, (key u i x q2).mpr q1, q2, q3⟩
      · rintro ⟨i, x, q1, q2, q3⟩; exact ⟨i, x, (key u i x q2).mp q1, q2, q3⟩
  · obtain ⟨a1, a2, a3⟩ := h.srI k s r h1 h2
    refine ⟨a1, fun u => (a2 u).trans ?_, a3⟩
    constructor
    · rintro ⟨⟨i, x, q1, q2, q3⟩, q4⟩; exact ⟨⟨i, x, (key u i x q2).mpr q1, q2, q3⟩, q4⟩
    · rintro ⟨⟨i, x, q1, q2, q3⟩, q4⟩; exact ⟨⟨i, x, (key u i x q2).mp q1, q2, q3⟩, q4⟩
end
end Go.Proofs.YbulkctquGreatFmt

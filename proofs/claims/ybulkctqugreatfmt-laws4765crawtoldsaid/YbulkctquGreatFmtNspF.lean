/-
  newSessionPolygraph, plainly: forcedAfter and the sessions' arcs.
-/
import Derived.Test.YbulkctquGreatFmtNspJ
import Derived.Test.YbulkctquGreatFmtPlB
namespace Go.Proofs.YbulkctquGreatFmt
open Go.ChangeShapes Go.WideShapes Go.ChangeAt Go.RowKit Go.Ord
set_option linter.unusedVariables false

def rkBef (r r' : Rk) : Prop := r.s < r'.s ∨ (r.s = r'.s ∧ r.k < r'.k)
theorem fold_sk (l : List Ev) : ∀ r : Rk, (l.foldl rkStep r).s = r.s ∧ (l.foldl rkStep r).k = r.k := by
  induction l with
  | nil => intro r; exact ⟨rfl, rfl⟩
  | cons x l ih =>
    intro r
    obtain ⟨a, b⟩ := ih (rkStep r x)
    have : (rkStep r x).s = r.s ∧ (rkStep r x).k = r.k := by unfold rkStep; split <;> exact ⟨rfl, rfl⟩
    exact ⟨by rw [List.foldl_cons, a, this.1], by rw [List.foldl_cons, b, this.2]⟩
theorem rkOf_sk (s k : Nat) (t : Tx) : (rkOf s k t).s = s ∧ (rkOf s k t).k = k := fold_sk _ _
theorem rksRow_ge (s : Nat) : ∀ (l : List Tx) (k : Nat) (r : Rk), r ∈ rksRow s k l → r.s = s ∧ k ≤ r.k
  | [], k, r, h => by simp [rksRow] at h
  | t :: l, k, r, h => by
    simp only [rksRow, List.mem_append] at h
    rcases h with h | h
    · split at h
      · simp at h; subst h; have := rkOf_sk s k t; exact ⟨this.1, by omega⟩
      · simp at h
    · have := rksRow_ge s l (k + 1) r h; exact ⟨this.1, by omega⟩
theorem rksRow_pw (s : Nat) : ∀ (l : List Tx) (k : Nat), (rksRow s k l).Pairwise rkBef
  | [], k => by simp [rksRow]
  | t :: l, k => by
    simp only [rksRow]
    rw [List.pairwise_append]
    refine ⟨by split <;> simp, rksRow_pw s l (k + 1), fun a ha b hb => ?_⟩
    split at ha
    · simp at ha; subst ha
      have h1 := rkOf_sk s k t
      have h2 := rksRow_ge s l (k + 1) b hb
      exact .inr ⟨by omega, by omega⟩
    · simp at ha
theorem rksAll_ge : ∀ (hs : List (List Tx)) (s : Nat) (r : Rk), r ∈ rksAll s hs → s ≤ r.s := fun hs s r h => (rksAll_mem hs s r h).1
theorem rksAll_pw : ∀ (hs : List (List Tx)) (s : Nat), (rksAll s hs).Pairwise rkBef
  | [], s => by simp [rksAll]
  | l :: hs, s => by
    simp only [rksAll]
    rw [List.pairwise_append]
    refine ⟨rksRow_pw s l 0, rksAll_pw hs (s + 1), fun a ha b hb => .inl ?_⟩
    have := (rksRow_ge s l 0 a ha).1
    have := rksAll_ge hs (s + 1) b hb
    omega
theorem rksAll_inj {hs : List (List Tx)} {i j : Nat} {r r' : Rk} (h : (rksAll 0 hs)[i]? = some r) (h' : (rksAll 0 hs)[j]? = some r') (e1 : r.s = r'.s) (e2 : r.k = r'.k) : i = j := by
  have pw := rksAll_pw hs 0
  rw [List.pairwise_iff_getElem] at pw
  obtain ⟨a1, a2⟩ := List.getElem?_eq_some_iff.mp h
  obtain ⟨b1, b2⟩ := List.getElem?_eq_some_iff.mp h'
  rcases Nat.lt_trichotomy i j with c | c | c
  · have := pw i j a1 b1 c; rw [a2, b2] at this; unfold rkBef at this; omega
  · exact c
  · have := pw j i b1 a1 c; rw [a2, b2] at this; unfold rkBef at this; omega
theorem rksRow_has (s : Nat) : ∀ (l : List Tx) (k i : Nat) (t : Tx), l[i]? = some t → t.com = true → ∃ r ∈ rksRow s k l, r.s = s ∧ r.k = k + i
  | [], k, i, t, h, _ => by simp at h
  | t' :: l, k, 0, t, h, hc => by
    simp at h; subst h
    exact ⟨rkOf s k t', by simp [rksRow, hc], rkOf_sk s k t'⟩
  | t' :: l, k, i + 1, t, h, hc => by
    obtain ⟨r, a, b, c⟩ := rksRow_has s l (k + 1) i t (by simpa using h) hc
    exact ⟨r, by simp only [rksRow, List.mem_append]; exact .inr a, b, by omega⟩
theorem rksAll_has : ∀ (hs : List (List Tx)) (s i k : Nat) (l : List Tx) (t : Tx), hs[i]? = some l → l[k]? = some t → t.com = true → ∃ r ∈ rksAll s hs, r.s = s + i ∧ r.k = k
  | [], s, i, k, l, t, h, _, _ => by simp at h
  | l' :: hs, s, 0, k, l, t, h, ht, hc => by
    simp at h; subst h
    obtain ⟨r, a, b, c⟩ := rksRow_has s l' 0 k t ht hc
    exact ⟨r, by simp only [rksAll, List.mem_append]; exact .inl a, b, by omega⟩
  | l' :: hs, s, i + 1, k, l, t, h, ht, hc => by
    obtain ⟨r, a, b, c⟩ := rksAll_has hs (s + 1) i k l t (by simpa using h) ht hc
    exact ⟨r, by simp only [rksAll, List.mem_append]; exact .inr a, by omega, c⟩
section
variable {hs : List (List Tx)} {A : List Rk} {zs : List Nat} {NM : Nat × Nat → Option Nat}
theorem ats_len (hp : zs.Perm (List.range A.length)) : (ats A zs).length = A.length := by simp [ats, hp.length_eq]
theorem ats_inj (hA : A = rksAll 0 hs) (hp : zs.Perm (List.range A.length)) {u u' : Nat} {p : Nat × Nat} (h : (ats A zs)[u]? = some p) (h' : (ats A zs)[u']? = some p) : u = u' := by
  obtain ⟨a, r, l, t, a1, a2, a3, _⟩ := node_at hA hp h
  obtain ⟨a', r', l', t', b1, b2, b3, _⟩ := node_at hA hp h'
  rw [a3] at b3
  injection b3 with c1 c2
  rw [hA] at a2 b2
  have := rksAll_inj a2 b2 c1 c2
  subst this
  have nd : zs.Nodup := hp.nodup_iff.mpr List.nodup_range
  rw [List.nodup_iff_pairwise_ne, List.pairwise_iff_getElem] at nd
  obtain ⟨x1, x2⟩ := List.getElem?_eq_some_iff.mp a1
  obtain ⟨y1, y2⟩ := List.getElem?_eq_some_iff.mp b1
  rcases Nat.lt_trichotomy u u' with c | c | c
  · exact absurd (x2.trans y2.symm) (nd u u' x1 y1 c)
  · exact c
  · exact absurd (y2.trans x2.symm) (nd u' u y1 x1 c)
theorem ats_cm (hA : A = rksAll 0 hs) (hp : zs.Perm (List.range A.length)) {u : Nat} {p : Nat × Nat} (h : (ats A zs)[u]? = some p) : Cm hs p.1 p.2 := by
  obtain ⟨a, r, l, t, a1, a2, a3, a4, a5, a6, a7⟩ := node_at hA hp h
  exact ⟨l, t, a4, a5, a6⟩
theorem ats_has (hA : A = rksAll 0 hs) (hp : zs.Perm (List.range A.length)) {s k : Nat} (h : Cm hs s k) : ∃ u, u < A.length ∧ (ats A zs)[u]? = some (s, k) := by
  obtain ⟨l, t, h1, h2, h3⟩ := h
  obtain ⟨r, a, b, c⟩ := rksAll_has hs 0 s k l t h1 h2 h3
  rw [← hA] at a
  obtain ⟨i, hi⟩ := List.getElem?_of_mem a
  have hil := (List.getElem?_eq_some_iff.mp hi).1
  have : i ∈ zs := hp.mem_iff.mpr (by simpa using hil)
  obtain ⟨u, hu⟩ := List.getElem?_of_mem this
  have hul := (List.getElem?_eq_some_iff.mp hu).1
  refine ⟨u, by have := hp.length_eq; simp at this; omega, ?_⟩
  simp [ats, hu, atOf, hi, b, c]
theorem NMI.find (h : NMI A zs A.length NM) (hA : A = rksAll 0 hs) (hp : zs.Perm (List.range A.length)) {s k : Nat} (hc : Cm hs s k) : ∃ u, NM (s, k) = some u ∧ u < A.length ∧ (ats A zs)[u]? = some (s, k) := by
  obtain ⟨u, hu, ha⟩ := ats_has hA hp hc
  obtain ⟨y, hy⟩ := h.bwd u (s, k) hu ha
  obtain ⟨a, b⟩ := h.fwd _ _ hy
  exact ⟨y, hy, a, b⟩

/-- forcedAfter and what waits. -/
def FaOk (hs : List (List Tx)) (A : List Rk) (zs : List Nat) (vars : List Nat) (ss : List Sr) (j y : Nat) : Prop :=
  y < A.length ∧ ∃ (sj : Sr) (a b c : Nat), ss[j]? = some sj ∧ (ats A zs)[sj.wr]? = some (a, b) ∧ (ats A zs)[y]? = some (a, c) ∧ b < c ∧ ∃ e x, At hs a c e x ∧ x.k = 1 ∧ vars[sj.ob]? = some x.x
structure FA (hs : List (List Tx)) (F : Nat → Option Wr) (A : List Rk) (zs : List Nat) (vars vers : List Nat) (ss : List Sr) (s k e : Nat) (fa : List Int) (wait : Nat → Option Nat) : Prop where
  len : fa.length = ss.length
  faI : ∀ (j : Nat) (i : Int), fa[j]? = some i → i = -1 ∨ ∃ y : Nat, i = (y : Int) ∧ FaOk hs A zs vars ss j y
  waI : ∀ n j, wait n = some j → j < ss.length ∧ ∃ r q x, vers[j]? = some r ∧ F r = some q ∧ q.s = s ∧ (q.k < k ∨ (q.k = k ∧ q.e < e)) ∧ At hs q.s q.k q.e x ∧ x.k = 1 ∧ x.v = r ∧ vars[n]? = some x.x
variable {F : Nat → Option Wr} {om sm : Nat → Option Nat} {vars vers : List Nat} {os : List Ob} {ss : List Sr} {G : List (List Nat)} {c s k e : Nat} {fa : List Int} {wait : Nat → Option Nat}
theorem FA.start (ss : List Sr) : FA hs F A zs vars vers ss 0 0 0 (List.replicate ss.length (-1)) (fun _ => none) :=
  ⟨by simp, fun j i h => by have := List.mem_of_getElem? h; simp at this; exact .inl this.2, fun n j h => by simp at h⟩
theorem FA.wipe (h : FA hs F A zs vars vers ss s k e fa wait) (s' : Nat) : FA hs F A zs vars vers ss s' 0 0 fa (fun _ => none) := ⟨h.len, h.faI, fun n j h => by simp at h⟩
theorem FA.up (h : FA hs F A zs vars vers ss s k e fa wait) : FA hs F A zs vars vers ss s k (e + 1) fa wait :=
  ⟨h.len, h.faI, fun n j q => by obtain ⟨a, r, w, x, b1, b2, b3, b4, b5⟩ := h.waI n j q; exact ⟨a, r, w, x, b1, b2, b3, by omega, b5⟩⟩
theorem FA.next (h : FA hs F A zs vars vers ss s k e fa wait) : FA hs F A zs vars vers ss s (k + 1) 0 fa wait :=
  ⟨h.len, h.faI, fun n j q => by obtain ⟨a, r, w, x, b1, b2, b3, b4, b5⟩ := h.waI n j q; exact ⟨a, r, w, x, b1, b2, b3, by omega, b5⟩⟩
/-- A write of an object that a source waits for. -/
theorem FA.hit (h : FA hs F A zs vars vers ss s k e fa wait) (O : HOk hs) (W : WF hs F) (E : EI hs F A zs NM A.length 0 om sm vars vers os ss G c) (N : NMI A zs A.length NM) {v : Nat} (hv : v < A.length) (hav : (ats A zs)[v]? = some (s, k)) {x : Ev} (hx : At hs s k e x) (hk : x.k = 1) {n j : Nat} (hn : om x.x = some n) (hj : wait n = some j) :
    j < ss.length ∧ FA hs F A zs vars vers ss s k e (fa.set j (v : Int)) (fun m => if m = n then none else wait m) := by
  obtain ⟨jl, r, q, x1, b1, b2, b3, b4, b5, b6, b7, b8⟩ := h.waI n j hj
  obtain ⟨sj, hsj⟩ := has_at ss jl
  refine ⟨jl, by simpa using h.len, fun j' i hi => ?_, fun m j' hm => ?_⟩
  · by_cases cj : j = j'
    · subst cj
      rw [List.getElem?_set_self (by rw [h.len]; exact jl)] at hi
      injection hi with hi
      subst hi
      refine .inr ⟨v, rfl, hv, sj, s, q.k, k, hsj, ?_, hav, ?_, e, x, hx, hk, ?_⟩
      · obtain ⟨⟨q', x', a1, a2, a3, a4, a5, a6, a7⟩, _⟩ := E.srI j sj r hsj b1
        rw [b2] at a1; cases a1
        rw [← b3]; exact (N.fwd _ _ a2).2
      · rcases b4 with b4 | ⟨b4, b4'⟩
        · exact b4
        · exfalso
          obtain ⟨⟨q', x', a1, a2, a3, a4, a5, a6, a7⟩, _⟩ := E.srI j sj r hsj b1
          rw [b2] at a1; cases a1
          obtain ⟨x2, c1, c2, c3, c4⟩ := W.fwd r q b2
          rcases c4 with ⟨c4, c5⟩ | ⟨e', x3, c4, _⟩
          · rw [b3, b4] at c5 b5 c1
            have hxx := b5.same c1
            subst hxx
            refine c5 e x b4' hx hk ?_
            have := (E.omI x.x n).mp hn
            rw [b8] at this
            injection this with this
            exact this.symm
          · omega
      · obtain ⟨⟨q', x', a1, a2, a3, a4, a5, a6, a7⟩, _⟩ := E.srI j sj r hsj b1
        rw [b2] at a1; cases a1
        have hxx := a3.same b5
        subst hxx
        have := (E.omI x.x n).mp hn
        rw [b8] at this
        injection this with this
        rw [a6, this]
    · rw [List.getElem?_set_ne cj] at hi
      exact h.faI j' i hi
  · by_cases cm : m = n
    · simp [cm] at hm
    · simp [cm] at hm; exact h.waI m j' hm
/-- A source's own write. -/
theorem FA.put (h : FA hs F A zs vars vers ss s k e fa wait) (W : WF hs F) (E : EI hs F A zs NM A.length 0 om sm vars vers os ss G c) {x : Ev} (hx : At hs s k e x) (hk : x.k = 1) {n j : Nat} (hn : om x.x = some n) (hj : sm x.v = some j) :
    FA hs F A zs vars vers ss s k (e + 1) fa (fun m => if m = n then some j else wait m) := by
  have hvj := (E.smI x.v j).mp hj
  refine ⟨h.len, h.faI, fun m j' hm => ?_⟩
  by_cases cm : m = n
  · simp [cm] at hm
    subst hm cm
    obtain ⟨q, q1, q2, q3, q4⟩ := W.bwd s k e x hx hk
    refine ⟨by rw [← E.lenS]; exact (List.getElem?_eq_some_iff.mp hvj).1, x.v, q, x, hvj, q1, q2, .inr ⟨q3, by omega⟩, ?_, hk, rfl, (E.omI x.x m).mp hn⟩
    rw [q2, q3, q4]; exact hx
  · simp [cm] at hm
    exact h.up.waI m j' hm
/-- The sessions' arcs. -/
def SesD (hs : List (List Tx)) (A : List Rk) (zs : List Nat) (s k u x : Nat) : Prop := ∃ a b c, (ats A zs)[u]? = some (a, b) ∧ (ats A zs)[x]? = some (a, c) ∧ b < c ∧ (∀ k', b < k' → k' < c → ¬ Cm hs a k') ∧ (a < s ∨ (a = s ∧ c < k))
structure GA (hs : List (List Tx)) (A : List Rk) (zs : List Nat) (G0 : List (List Nat)) (s k : Nat) (bf : Int) (G : List (List Nat)) : Prop where
  arcs : ∀ u x, Arc G u x ↔ Arc G0 u x ∨ SesD hs A zs s k u x
  bfI : (bf = -1 ∧ ∀ k', k' < k → ¬ Cm hs s k') ∨ ∃ u b : Nat, bf = (u : Int) ∧ u < A.length ∧ (ats A zs)[u]? = some (s, b) ∧ b < k ∧ ∀ k', b < k' → k' < k → ¬ Cm hs s k'
  len : G.length = A.length
  wtI : wt G ≤ wt G0 + 100 * s + k
variable {G0 : List (List Nat)} {bf : Int}
theorem GA.start (hl : G0.length = A.length) : GA hs A zs G0 0 0 (-1) G0 := by
  refine ⟨fun u x => ⟨.inl, fun h => h.elim id ?_⟩, .inl ⟨rfl, fun k' h => by omega⟩, hl, by omega⟩
  rintro ⟨a, b, c, _, _, _, _, h⟩; omega
theorem GA.skip (h : GA hs A zs G0 s k bf G) (hA : A = rksAll 0 hs) (hp : zs.Perm (List.range A.length)) (hc : ¬ Cm hs s k) : GA hs A zs G0 s (k + 1) bf G := by
  refine ⟨fun u x => (h.arcs u x).trans ?_, ?_, h.len, by have := h.wtI; omega⟩
  · refine or_congr Iff.rfl ⟨fun ⟨a, b, c, q1, q2, q3, q4, q5⟩ => ⟨a, b, c, q1, q2, q3, q4, by omega⟩, fun ⟨a, b, c, q1, q2, q3, q4, q5⟩ => ⟨a, b, c, q1, q2, q3, q4, ?_⟩⟩
    have hcm := ats_cm hA hp q2
    by_cases e : a = s ∧ c = k
    · obtain ⟨rfl, rfl⟩ := e; exact absurd hcm hc
    · omega
  · rcases h.bfI with ⟨a, b⟩ | ⟨u, b, q1, q2, q3, q4, q5⟩
    · refine .inl ⟨a, fun k' hk' => ?_⟩
      by_cases e : k' = k
      · subst e; exact hc
      · exact b k' (by omega)
    · refine .inr ⟨u, b, q1, q2, q3, by omega, fun k' h1 h2 => ?_⟩
      by_cases e : k' = k
      · subst e; exact hc
      · exact q5 k' h1 (by omega)
theorem GA.first (h : GA hs A zs G0 s k bf G) (hA : A = rksAll 0 hs) (hp : zs.Perm (List.range A.length)) {v : Nat} (hv : v < A.length) (hav : (ats A zs)[v]? = some (s, k)) (hb : ¬ 0 ≤ bf) : GA hs A zs G0 s (k + 1) (v : Int) G := by
  have hno : ∀ k', k' < k → ¬ Cm hs s k' := by
    rcases h.bfI with ⟨_, b⟩ | ⟨u, b, q1, _⟩
    · exact b
    · omega
  refine ⟨fun u x => (h.arcs u x).trans ?_, .inr ⟨v, k, rfl, hv, hav, by omega, fun k' h1 h2 => by omega⟩, h.len, by have := h.wtI; omega⟩
  refine or_congr Iff.rfl ⟨fun ⟨a, b, c, q1, q2, q3, q4, q5⟩ => ⟨a, b, c, q1, q2, q3, q4, by omega⟩, fun ⟨a, b, c, q1, q2, q3, q4, q5⟩ => ⟨a, b, c, q1, q2, q3, q4, ?_⟩⟩
  have hcm := ats_cm hA hp q1
  by_cases e : a = s ∧ c = k
  · obtain ⟨rfl, rfl⟩ := e; exact absurd hcm (hno b q3)
  · omega
theorem GA.arc (h : GA hs A zs G0 s k bf G) (hA : A = rksAll 0 hs) (hp : zs.Perm (List.range A.length)) {v : Nat} (hv : v < A.length) (hav : (ats A zs)[v]? = some (s, k)) {u0 : Nat} (hb : bf = (u0 : Int)) : u0 < A.length ∧ GA hs A zs G0 s (k + 1) (v : Int) (arc G u0 v) := by
  rcases h.bfI with ⟨b, _⟩ | ⟨u1, b0, q1, q2, q3, q4, q5⟩
  · omega
  have e0 : u1 = u0 := by omega
  subst e0
  refine ⟨q2, fun u x => ?_, .inr ⟨v, k, rfl, hv, hav, by omega, fun k' h1 h2 => by omega⟩, by rw [arc_len]; exact h.len, by rw [wt_arc G u1 v (by rw [h.len]; exact q2)]; have := h.wtI; omega⟩
  constructor
  · intro ha
    rcases arc_sub ha with ha | ⟨rfl, rfl⟩
    · rcases (h.arcs u x).mp ha with ha | ⟨a, b, c, w1, w2, w3, w4, w5⟩
      · exact .inl ha
      · exact .inr ⟨a, b, c, w1, w2, w3, w4, by omega⟩
    · exact .inr ⟨s, b0, k, q3, hav, q4, q5, .inr ⟨rfl, by omega⟩⟩
  · rintro (ha | ⟨a, b, c, w1, w2, w3, w4, w5⟩)
    · exact arc_sup ((h.arcs u x).mpr (.inl ha))
    · by_cases e : a = s ∧ c = k
      · obtain ⟨rfl, rfl⟩ := e
        have ex := ats_inj hA hp w2 hav
        subst ex
        have cb := ats_cm hA hp w1
        have cb0 := ats_cm hA hp q3
        have eb : b = b0 := by
          rcases Nat.lt_trichotomy b b0 with g | g | g
          · exact absurd cb0 (w4 b0 g q4)
          · exact g
          · exact absurd cb (q5 b g w3)
        subst eb
        have eu := ats_inj hA hp w1 q3
        subst eu
        exact arc_new (by rw [h.len]; exact q2)
      · exact arc_sup ((h.arcs u x).mpr (.inr ⟨a, b, c, w1, w2, w3, w4, by omega⟩))
theorem GA.nextSes (h : GA hs A zs G0 s k bf G) (hA : A = rksAll 0 hs) (hp : zs.Perm (List.range A.length)) {l : List Tx} (hl : hs[s]? = some l) (hk : k = l.length) (h90 : l.length < 90) : GA hs A zs G0 (s + 1) 0 (-1) G := by
  refine ⟨fun u x => (h.arcs u x).trans ?_, .inl ⟨rfl, fun k' h => by omega⟩, h.len, by have := h.wtI; omega⟩
  refine or_congr Iff.rfl ⟨fun ⟨a, b, c, q1, q2, q3, q4, q5⟩ => ⟨a, b, c, q1, q2, q3, q4, by omega⟩, fun ⟨a, b, c, q1, q2, q3, q4, q5⟩ => ⟨a, b, c, q1, q2, q3, q4, ?_⟩⟩
  obtain ⟨l', t, g1, g2, _⟩ := ats_cm hA hp q2
  by_cases e : a = s
  · subst e
    simp only at g1 g2
    rw [hl] at g1; cases g1
    have := (List.getElem?_eq_some_iff.mp g2).1
    omega
  · omega
end
end Go.Proofs.YbulkctquGreatFmt

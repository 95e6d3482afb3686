/-
  Plainly: what the search asks of the polygraph of a small history.
-/
import Derived.Test.YbulkctquGreatFmtWrQ
import Derived.Test.YbulkctquGreatFmtScP
import Derived.Test.YbulkctquGreatFmtNspM
namespace Go.Proofs.YbulkctquGreatFmt
open Go.ChangeShapes Go.WideShapes Go.ChangeAt Go.RowKit Go.Ord
set_option linter.unusedVariables false

section
variable {hs : List (List Tx)} {F : Nat → Option Wr} {A : List Rk} {zs : List Nat} {NM : Nat × Nat → Option Nat} {vars vers : List Nat} {os : List Ob} {ss : List Sr} {fa : List Int} {ows G : List (List Nat)} {J : List Bool} {D P : List Nat}
theorem nodup_map_of {α : Type} (f : α → Nat) {l : List α} (h : l.Nodup) (hi : ∀ a ∈ l, ∀ b ∈ l, f a = f b → a = b) : (l.map f).Nodup := by
  rw [List.nodup_iff_pairwise_ne] at h ⊢
  rw [List.pairwise_map]
  exact List.Pairwise.imp_of_mem (fun ha hb hne e => hne (hi _ ha _ hb e)) h
theorem NP.sinj (N : NP hs F A zs NM vars vers os ss fa ows G J) {k k' r : Nat} (h : vers[k]? = some r) (h' : vers[k']? = some r) : k = k' := by
  obtain ⟨om, sm, c, Ge, G0, E, _⟩ := N.ei
  have a := (E.smI _ _).mpr h
  have b := (E.smI _ _).mpr h'
  rw [a] at b; injection b
open Classical in
/-- At most 56 pairs of a source and another write. -/
theorem NP.few (N : NP hs F A zs NM vars vers os ss fa ows G J) (O : HOk hs) (h8 : ∀ s k e x, At hs s k e x → x.v < 8) (l : List (Nat × Nat)) (hn : l.Nodup) (hl : ∀ p ∈ l, ∃ (s : Sr) (o : Ob), ss[p.1]? = some s ∧ os[s.ob]? = some o ∧ p.2 ∈ o.wr ∧ p.2 ≠ s.wr) : l.length ≤ 60 := by
  have key : ∀ p ∈ l, ∃ c : Nat, c < 64 ∧ c ≠ 9 * (c / 8) ∧ ∃ (a b : Nat) (s : Sr) (x : Ev) (q : Nat × Nat) (i : Nat), c = a * 8 + b ∧ a < 8 ∧ b < 8 ∧ ss[p.1]? = some s ∧ vers[p.1]? = some a ∧ (ats A zs)[p.2]? = some q ∧ At hs q.1 q.2 i x ∧ x.k = 1 ∧ x.v = b ∧ vars[s.ob]? = some x.x := fun p hp => by
    obtain ⟨s, o, h1, h2, h3, h4⟩ := hl p hp
    obtain ⟨r, w, y, a1, a2, a3, a4, a5, a6, a7, a8, a9, a10, a11⟩ := N.srcR O h1
    obtain ⟨yv, b1, _, _, _, b2, _⟩ := N.obj h2
    obtain ⟨q, i, v, c1, c2, c3, c4, c5⟩ := b2 p.2 h3
    have hr := h8 _ _ _ _ a5
    have hv := h8 _ _ _ _ c3
    have hne : r ≠ v.v := fun e => h4 (by
      obtain ⟨e1, e2, e3⟩ := O.uniq _ _ _ _ _ _ _ _ a5 c3 a6 c4 (by omega)
      have : (w.s, w.k) = q := Prod.ext e1 e2
      rw [this] at a3
      exact (ats_inj N.hA N.hp a3 c2).symm)
    rw [a8] at b1; injection b1 with b1
    refine ⟨r * 8 + v.v, by omega, by omega, r, v.v, s, v, q, i, rfl, by omega, hv, h1, a1, c2, c3, c4, rfl, by rw [a8, b1, c5]⟩
  have f : ∀ p : Nat × Nat, ∃ c : Nat, p ∈ l → (c < 64 ∧ c ≠ 9 * (c / 8) ∧ ∃ (a b : Nat) (s : Sr) (x : Ev) (q : Nat × Nat) (i : Nat), c = a * 8 + b ∧ a < 8 ∧ b < 8 ∧ ss[p.1]? = some s ∧ vers[p.1]? = some a ∧ (ats A zs)[p.2]? = some q ∧ At hs q.1 q.2 i x ∧ x.k = 1 ∧ x.v = b ∧ vars[s.ob]? = some x.x) := fun p => by
    by_cases hp : p ∈ l
    · obtain ⟨c, hc⟩ := key p hp; exact ⟨c, fun _ => hc⟩
    · exact ⟨0, fun h => absurd h hp⟩
  have hf := fun p => Classical.choose_spec (f p)
  have nd : (l.map (fun p => Classical.choose (f p))).Nodup := nodup_map_of _ hn (fun p hp p' hp' e => by
    obtain ⟨_, _, a, b, s, x, q, i, c1, c2, c3, c4, c5, c6, c7, c8, c9, c10⟩ := hf p hp
    obtain ⟨_, _, a', b', s', x', q', i', d1, d2, d3, d4, d5, d6, d7, d8, d9, d10⟩ := hf p' hp'
    have ea : a = a' := by omega
    have eb : b = b' := by omega
    subst ea; subst eb
    have e1 : p.1 = p'.1 := N.sinj c5 d5
    obtain ⟨e2, e3, e4⟩ := O.uniq _ _ _ _ _ _ _ _ c7 d7 c8 d8 (by omega)
    have e5 : q = q' := Prod.ext e2 e3
    subst e5
    exact Prod.ext e1 (ats_inj N.hA N.hp c6 d6))
  have hlen := nodup_len 64 ([0, 9, 18, 27, 36, 45, 54, 63] ++ l.map (fun p => Classical.choose (f p))) (by
    rw [List.nodup_append]
    refine ⟨by decide, nd, fun a ha b hb e => ?_⟩
    subst e
    obtain ⟨p, hp, rfl⟩ := List.mem_map.mp hb
    have := (hf p hp).2.1
    simp only [List.mem_cons, List.not_mem_nil, or_false] at ha
    omega) (fun y hy => by
    rcases List.mem_append.mp hy with hy | hy
    · simp only [List.mem_cons, List.not_mem_nil, or_false] at hy; omega
    · obtain ⟨p, hp, rfl⟩ := List.mem_map.mp hy
      exact (hf p hp).1)
  simp at hlen
  omega
theorem NP.srok (N : NP hs F A zs NM vars vers os ss fa ows G J) (O : HOk hs) (hrn : ∀ s ∈ ss, s.rd ≠ []) (h8 : ∀ s k e x, At hs s k e x → x.v < 8) : SrOk A.length G ss os := by
  refine ⟨fun o ho => ?_, fun s hs' => ?_, fun s hs' => ?_, fun s hs' t ht => ?_, fun l h1 h2 => N.few O h8 l h1 h2⟩
  · obtain ⟨x, hx⟩ := List.getElem?_of_mem ho
    obtain ⟨y, hy, n1, n2, n3, w1, i1⟩ := N.obj hx
    have hlt : ∀ t ∈ o.wr, t < A.length := fun t ht => by obtain ⟨_, _, _, h, _⟩ := w1 t ht; exact h
    exact ⟨hlt, n1, nodup_len _ _ n1 hlt, n3⟩
  · obtain ⟨k, hk⟩ := List.getElem?_of_mem hs'
    obtain ⟨r, w, y, a1, a2, a3, a4, a5, a6, a7, a8, a9, a10, a11⟩ := N.srcR O hk
    have hlt : ∀ t ∈ s.rd, t < A.length := fun t ht => by obtain ⟨_, _, _, _, h, _⟩ := a11 t ht; exact h
    have hnd : s.rd.Nodup := by rw [List.nodup_iff_pairwise_ne]; exact a10.imp (fun h => by omega)
    obtain ⟨om, sm, c, Ge, G0, E, _⟩ := N.ei
    obtain ⟨o, ho⟩ := has_at os (k := s.ob) (by rw [← E.lenO]; exact (List.getElem?_eq_some_iff.mp a8).1)
    refine ⟨a4, hlt, hrn s hs', nodup_len _ _ hnd hlt, o, ho, ((E.obI s.ob o y.x ho a8).1 s.wr).mpr ?_⟩
    have hz : EvN hs A zs s.wr w.e y := ⟨_, a3, a5⟩
    exact ⟨w.e, y, done_all N.hp hz, hz, a6, rfl, w, by rw [a7]; exact a2, a9⟩
  · obtain ⟨k, hk⟩ := List.getElem?_of_mem hs'
    obtain ⟨_, _, _, _, _, _, _, _, _, _, _, _, a10, _⟩ := N.srcR O hk
    rw [List.nodup_iff_pairwise_ne]; exact a10.imp (fun h => by omega)
  · obtain ⟨k, hk⟩ := List.getElem?_of_mem hs'
    exact (N.arcW hk ht).outs
/-- Sizes. -/
theorem NP.sizes (N : NP hs F A zs NM vars vers os ss fa ows G J) (O : HOk hs) (h8 : ∀ s k e x, At hs s k e x → x.v < 8) (hA : A.length ≤ 12) (ho : os.length ≤ 900) : G.length < 10000 ∧ wt G < 800000 ∧ ss.length ≤ 8 := by
  have hs8 : ss.length ≤ 8 := by
    obtain ⟨om, sm, c, Ge, G0, E, _⟩ := N.ei
    rw [← E.lenS]
    refine nodup_len 8 vers ?_ (fun r hr => ?_)
    · rw [List.nodup_iff_pairwise_ne, List.pairwise_iff_getElem]
      intro i j hi hj hij e
      have := N.sinj (k := i) (k' := j) (r := vers[j]) (by rw [List.getElem?_eq_getElem hi, e]) (List.getElem?_eq_getElem hj)
      omega
    · obtain ⟨k, hk⟩ := List.getElem?_of_mem hr
      obtain ⟨s, hs'⟩ := has_at ss (k := k) (by rw [← E.lenS]; exact (List.getElem?_eq_some_iff.mp hk).1)
      obtain ⟨r', w, y, a1, a2, a3, a4, a5, a6, a7, _⟩ := N.srcR O hs'
      rw [hk] at a1; injection a1 with a1; subst a1
      have := h8 _ _ _ _ a5
      omega
  obtain ⟨om, sm, c, Ge, G0, E, GA0, eG, eJ, hw⟩ := N.ei
  have b1 : ∀ o ∈ os, o.ini.length ≤ 12 ∧ o.wr.length ≤ 12 := fun o ho => by
    obtain ⟨x, hx⟩ := List.getElem?_of_mem ho
    obtain ⟨y, hy, n1, n2, n3, w1, i1⟩ := N.obj hx
    have q1 := nodup_len A.length o.wr n1 (fun t ht => by obtain ⟨_, _, _, h, _⟩ := w1 t ht; exact h)
    have q2 := nodup_len A.length o.ini n2 (fun t ht => by obtain ⟨_, _, _, h, _⟩ := i1 t ht; exact h)
    omega
  have b2 : ∀ s ∈ ss, s.rd.length ≤ 12 := fun s hs' => by
    obtain ⟨k, hk⟩ := List.getElem?_of_mem hs'
    obtain ⟨_, _, _, _, _, _, _, _, _, _, _, _, a10, a11⟩ := N.srcR O hk
    have := nodup_len A.length s.rd (by rw [List.nodup_iff_pairwise_ne]; exact a10.imp (fun h => by omega)) (fun t ht => by obtain ⟨_, _, _, _, h, _⟩ := a11 t ht; exact h)
    omega
  have b3 : ∀ r ∈ ows, r.length ≤ 13 := fun r hr => by
    obtain ⟨k, hk⟩ := List.getElem?_of_mem hr
    have := (N.owf.row k r hk).1
    omega
  have s1 := initG_size os G0 b1
  have s2 := initG_len os G0 b1
  have s3 := overG_size ss ows (initG G0 os) b2 b3
  have s4 := overG_len ss ows (initG G0 os) b2 b3
  have g1 := GA0.len
  have g2 := GA0.wtI
  have g3 := O.small
  rw [eG]
  refine ⟨by omega, by omega, hs8⟩
theorem fpos {J : List Bool} {x : Nat} {l : List Nat} (h : (!juncAt J x) = true) : (x :: l).filter (fun v => !juncAt J v) = x :: l.filter (fun v => !juncAt J v) := List.filter_cons_of_pos (p := fun v => !juncAt J v) h
theorem fneg {J : List Bool} {x : Nat} {l : List Nat} (h : ¬ (!juncAt J x) = true) : (x :: l).filter (fun v => !juncAt J v) = l.filter (fun v => !juncAt J v) := List.filter_cons_of_neg (p := fun v => !juncAt J v) h
/-- The cycle, its junctions left out: neighbours have a cause. -/
theorem cyc_cause {n : Nat} {R : Nat → Nat → Prop} (C : Cau n R G J) {st : Nat} {K : List Nat} (hc : Cyc G st K) (hst : st < n) :
    K.filter (fun v => !juncAt J v) ≠ [] ∧ (∀ x ∈ K.filter (fun v => !juncAt J v), x < n) ∧
    ∀ k a b, (K.filter (fun v => !juncAt J v))[k]? = some a → (K.filter (fun v => !juncAt J v))[(k + 1) % (K.filter (fun v => !juncAt J v)).length]? = some b → R a b := by
  have low : ∀ x ∈ K, (!juncAt J x) = true ↔ x < n := fun x hx => by
    have hx' := hc.inn x hx
    by_cases q : x < n
    · simp [C.low x q, q]
    · simp [C.high x (by omega) hx', q]
  have hd : K.filter (fun v => !juncAt J v) ≠ [] := by
    have : st ∈ K.filter (fun v => !juncAt J v) := List.mem_filter.mpr ⟨List.mem_of_getElem? hc.hd, by simp [C.low st hst]⟩
    exact List.ne_nil_of_mem this
  refine ⟨hd, fun x hx => (low x (List.mem_filter.mp hx).1).mp (List.mem_filter.mp hx).2, ?_⟩
  -- walk: from a real node of K onward to the next real one
  have stepR : ∀ (l : List Nat) (a : Nat) (r : List Nat), K = l ++ a :: r → a < n → ∀ b rest, r.filter (fun v => !juncAt J v) = b :: rest → R a b := by
    intro l a r hK ha b rest hb
    cases r with
    | nil => simp at hb
    | cons x r =>
      have ax : x ∈ outs G a := hc.nxt l.length a x (by rw [hK]; simp) (by rw [hK]; simp)
      have hxK : x ∈ K := by rw [hK]; simp
      by_cases q : x < n
      · have : (!juncAt J x) = true := (low x hxK).mpr q
        rw [fpos this] at hb
        injection hb with hb _; subst hb
        exact (C.arcs a x (outs_arc ax)).2.1 ha q
      · have hn : ¬ (!juncAt J x) = true := fun h => q ((low x hxK).mp h)
        rw [fneg hn] at hb
        cases r with
        | nil => simp at hb
        | cons y r =>
          have xy : y ∈ outs G x := hc.nxt (l.length + 1) x y (by rw [hK]; simp) (by rw [hK, List.getElem?_append_right (by omega)]; simp [show l.length + 1 + 1 - l.length = 2 by omega])
          have hy : y < n := (C.arcs x y (outs_arc xy)).2.2 (by omega)
          have hyK : y ∈ K := by rw [hK]; simp
          have : (!juncAt J y) = true := (low y hyK).mpr hy
          rw [fpos this] at hb
          injection hb with hb _; subst hb
          exact C.jun a x y (outs_arc ax) (outs_arc xy) (by omega)
  have lastR : ∀ (l : List Nat) (a : Nat) (r : List Nat), K = l ++ a :: r → a < n → r.filter (fun v => !juncAt J v) = [] → R a st := by
    intro l a r hK ha hb
    cases r with
    | nil =>
      have := hc.lst a (by rw [hK]; simp)
      exact (C.arcs a st (outs_arc this)).2.1 ha hst
    | cons x r =>
      have ax : x ∈ outs G a := hc.nxt l.length a x (by rw [hK]; simp) (by rw [hK]; simp)
      have hxK : x ∈ K := by rw [hK]; simp
      have q : ¬ x < n := fun q => by
        have : (!juncAt J x) = true := (low x hxK).mpr q
        rw [fpos this] at hb; cases hb
      have hn : ¬ (!juncAt J x) = true := fun h => q ((low x hxK).mp h)
      rw [fneg hn] at hb
      cases r with
      | nil =>
        have := hc.lst x (by rw [hK]; simp)
        exact C.jun a x st (outs_arc ax) (outs_arc this) (by omega)
      | cons y r =>
        exfalso
        have xy : y ∈ outs G x := hc.nxt (l.length + 1) x y (by rw [hK]; simp) (by rw [hK, List.getElem?_append_right (by omega)]; simp [show l.length + 1 + 1 - l.length = 2 by omega])
        have hy : y < n := (C.arcs x y (outs_arc xy)).2.2 (by omega)
        have : (!juncAt J y) = true := (low y (by rw [hK]; simp)).mpr hy
        rw [fpos this] at hb; cases hb
  have cut : ∀ k a, (K.filter (fun v => !juncAt J v))[k]? = some a → ∃ l r, K = l ++ a :: r ∧ (l.filter (fun v => !juncAt J v)).length = k := by
    intro k a h
    clear hd stepR lastR low hc hst C
    induction K generalizing k with
    | nil => simp at h
    | cons x K ih =>
      by_cases q : (!juncAt J x) = true
      · rw [fpos q] at h
        cases k with
        | zero => simp at h; subst h; exact ⟨[], K, rfl, rfl⟩
        | succ k =>
          obtain ⟨l, r, h1, h2⟩ := ih k (by simpa using h)
          exact ⟨x :: l, r, by rw [h1]; rfl, by rw [fpos q]; simp [h2]⟩
      · rw [fneg q] at h
        obtain ⟨l, r, h1, h2⟩ := ih k h
        exact ⟨x :: l, r, by rw [h1]; rfl, by rw [fneg q]; exact h2⟩
  intro k a b ha hb
  obtain ⟨l, r, hK, hlk⟩ := cut k a ha
  have ham := List.mem_of_getElem? ha
  have han : a < n := (low a (List.mem_filter.mp ham).1).mp (List.mem_filter.mp ham).2
  have haj : (!juncAt J a) = true := (List.mem_filter.mp ham).2
  have hfl : K.filter (fun v => !juncAt J v) = l.filter (fun v => !juncAt J v) ++ a :: r.filter (fun v => !juncAt J v) := by
    rw [hK, List.filter_append, fpos haj]
  cases hr : r.filter (fun v => !juncAt J v) with
  | nil =>
    have hlen : (K.filter (fun v => !juncAt J v)).length = k + 1 := by rw [hfl, hr]; simp [hlk]
    rw [hlen, Nat.mod_self] at hb
    have h0 : (K.filter (fun v => !juncAt J v))[0]? = some st := by
      have := hc.hd
      cases hKK : K with
      | nil => rw [hKK] at this; simp at this
      | cons x K' =>
        rw [hKK] at this
        simp at this; subst this
        rw [fpos (by simp [C.low x hst])]; rfl
    rw [h0] at hb; injection hb with hb; subst hb
    exact lastR l a r hK han hr
  | cons y rest =>
    have hlen : k + 1 < (K.filter (fun v => !juncAt J v)).length := by rw [hfl, hr]; simp [hlk]
    rw [Nat.mod_eq_of_lt hlen, hfl, List.getElem?_append_right (by omega), hlk, show k + 1 - k = 1 by omega, hr] at hb
    simp at hb; subst hb
    exact stepR l a r hK han y rest hr
end
end Go.Proofs.YbulkctquGreatFmt

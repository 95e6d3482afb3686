/-
  components over any graph, no Go in sight (Tarjan): labels do not grow along arcs, the nodes of one label reach one another inside it, the sizes count them.
-/
import Derived.Test.YbulkctquGreatFmtCompP
namespace Go.Proofs.YbulkctquGreatFmt
set_option linter.unusedVariables false

/-- A path that stays inside P. -/
inductive RI (G : List (List Nat)) (P : Nat → Prop) : Nat → Nat → Prop
  | refl {x : Nat} : P x → RI G P x x
  | step {x y z : Nat} : P x → y ∈ outs G x → RI G P y z → RI G P x z
section
variable {G : List (List Nat)} {P Q : Nat → Prop} {x y z : Nat}
theorem RI.mono (h : RI G P x y) (hp : ∀ z, P z → Q z) : RI G Q x y := by
  induction h with
  | refl a => exact .refl (hp _ a)
  | step a b _ ih => exact .step (hp _ a) b ih
theorem RI.trans (h : RI G P x y) (h2 : RI G P y z) : RI G P x z := by
  induction h with
  | refl a => exact h2
  | step a b _ ih => exact .step a b (ih h2)
theorem RI.fst (h : RI G P x y) : P x := by cases h <;> assumption
theorem RI.snd (h : RI G P x y) : P y := by
  induction h with
  | refl a => exact a
  | step a b _ ih => exact ih
end

def Sg (vis opn cn : List Nat) (p z : Nat) : Prop := z ∈ opn ∧ hg vis p ≤ hg vis z ∧ ∀ q ∈ cn, hg vis p < hg vis q → hg vis z < hg vis q
def Lw (vis low opn cn : List Nat) (x z : Nat) : Prop := z ∈ opn ∧ hg low x ≤ hg vis z ∧ ∀ q ∈ cn, hg vis x < hg vis q → hg vis z < hg vis q
def lab (c : Int) : List Int → List Nat → List Int
  | m, [] => m
  | m, x :: l => lab c (m.set x c) l
theorem lab_len (c : Int) : ∀ (l : List Nat) (m : List Int), (lab c m l).length = m.length
  | [], m => rfl
  | x :: l, m => by rw [lab, lab_len c l]; simp
theorem lab_at (c : Int) : ∀ (l : List Nat) (m : List Int), (∀ x ∈ l, x < m.length) → ∀ y, (lab c m l)[y]? = if y ∈ l then some c else m[y]?
  | [], m, _, y => by simp [lab]
  | x :: l, m, h, y => by
    rw [lab, lab_at c l (m.set x c) (fun z hz => by simpa using h z (by simp [hz]))]
    by_cases e : y ∈ l
    · simp [e]
    · by_cases e2 : y = x
      · subst e2
        have := h y (by simp)
        simp [e, this]
      · simp [e, e2, List.getElem?_set_ne (Ne.symm e2)]

structure TJ (G : List (List Nat)) (vis low : List Nat) (cmp : List Int) (opn cn : List Nat) (dn : Nat → Nat) (siz E : List Nat) (rem : Nat → Nat) : Prop where
  lv : vis.length = G.length
  ll : low.length = G.length
  lc : cmp.length = G.length
  vE : ∀ x, x < G.length → (hg vis x ≠ 0 ↔ x ∈ E)
  En : E.Nodup
  El : ∀ x ∈ E, x < G.length ∧ hg vis x ≤ E.length
  oE : ∀ x ∈ opn, x ∈ E
  co : ∀ x ∈ cn, x ∈ opn
  vs : cn.Pairwise (fun p q => hg vis p < hg vis q)
  ov : opn.Pairwise (fun p q => hg vis p < hg vis q)
  c0 : ∀ x, x < G.length → (x ∈ opn ∨ x ∉ E) → cmp[x]? = some (-1)
  c1 : ∀ x ∈ E, x ∉ opn → ∃ c : Nat, cmp[x]? = some (c : Int) ∧ c < siz.length
  sc : ∀ (c n : Nat), siz[c]? = some n → ∃ l : List Nat, l.Nodup ∧ l.length = n ∧ ∀ x, x ∈ l ↔ cmp[x]? = some (c : Int)
  sl : siz.length + opn.length ≤ E.length
  lw : ∀ x ∈ opn, hg low x ≤ hg vis x
  dl : ∀ x ∈ cn, dn x ≤ (outs G x).length
  df : ∀ x ∈ E, x ∉ cn → dn x = (outs G x).length
  r1 : ∀ x ∈ cn, rem x = (outs G x).length - dn x + 1
  r2 : ∀ x, x < G.length → x ∉ E → rem x = (outs G x).length + 1 ∧ dn x = 0
  ae : ∀ x ∈ E, ∀ y ∈ (outs G x).take (dn x), y ∈ E
  ao : ∀ x ∈ opn, ∀ y ∈ (outs G x).take (dn x), y ∈ opn → hg low x ≤ hg vis y
  al : ∀ x ∈ E, x ∉ opn → ∀ y ∈ outs G x, y ∉ opn ∧ y ∈ E ∧ ∀ a b : Int, cmp[x]? = some a → cmp[y]? = some b → b ≤ a
  ch : ∀ (i p q : Nat), cn[i]? = some p → cn[i + 1]? = some q → q ∈ outs G p
  sg : ∀ x ∈ opn, ∃ p ∈ cn, Sg vis opn cn p x ∧ hg low p ≤ hg low x ∧ RI G (Sg vis opn cn p) p x ∧ (x ≠ p → hg low x < hg vis x)
  lp : ∀ x ∈ opn, ∃ y, hg vis y = hg low x ∧ RI G (Lw vis low opn cn x) x y
  cl : ∀ (c x y : Nat), cmp[x]? = some (c : Int) → cmp[y]? = some (c : Int) → RI G (fun z => cmp[z]? = some (c : Int)) x y
section
variable {G : List (List Nat)} {vis low : List Nat} {cmp : List Int} {opn cn cs : List Nat} {dn : Nat → Nat} {siz E : List Nat} {rem : Nat → Nat}
theorem TJ.start (h1 : vis = List.replicate G.length 0) (h2 : low.length = G.length) (h3 : cmp = List.replicate G.length (-1)) : TJ G vis low cmp [] [] (fun _ => 0) [] [] (fun x => (outs G x).length + 1) := by
  subst h1 h3
  have neg : ∀ (x : Nat) (c : Nat), (List.replicate G.length (-1 : Int))[x]? ≠ some (c : Int) := by
    intro x c h
    rw [List.getElem?_replicate] at h
    split at h
    · injection h with h; omega
    · cases h
  refine ⟨by simp, h2, by simp, fun x hx => by simp [hg, hx], by simp, by simp, by simp, by simp, .nil, .nil, fun x hx _ => by simp [hx], by simp, by simp, by simp, by simp, by simp, by simp, by simp, fun _ _ _ => ⟨rfl, rfl⟩, by simp, by simp, by simp, by simp, by simp, by simp, fun c x y h => absurd h (neg x c)⟩
theorem TJ.Elen (h : TJ G vis low cmp opn cn dn siz E rem) : E.length ≤ G.length := nodup_len _ E h.En (fun x hx => (h.El x hx).1)
theorem TJ.cE (h : TJ G vis low cmp opn cn dn siz E rem) {x : Nat} (hx : x ∈ cn) : x ∈ E := h.oE x (h.co x hx)
theorem TJ.top {v : Nat} (h : TJ G vis low cmp opn (cs ++ [v]) dn siz E rem) : (∀ p ∈ cs, p ≠ v ∧ hg vis p < hg vis v) ∧ v < G.length ∧ v ∈ E ∧ v ∈ opn := by
  have h2 := h.vs
  rw [List.pairwise_append] at h2
  refine ⟨fun p hp => ?_, (h.El v (h.cE (by simp))).1, h.cE (by simp), h.co v (by simp)⟩
  have b := h2.2.2 p hp v (by simp)
  refine ⟨fun e => ?_, b⟩
  subst e
  omega
theorem TJ.empty (h : TJ G vis low cmp opn [] dn siz E rem) : opn = [] := by
  cases opn with
  | nil => rfl
  | cons a l =>
    obtain ⟨p, hp, _⟩ := h.sg a (by simp)
    simp at hp
theorem TJ.enter (h : TJ G vis low cmp opn cn dn siz E rem) {x : Nat} (hx : x < G.length) (hE : x ∉ E) (dn' rem' : Nat → Nat)
    (d1 : ∀ z, z ∉ cn → dn' z = dn z) (d2 : ∀ z, ∀ y ∈ (outs G z).take (dn' z), y ∈ (outs G z).take (dn z) ∨ y = x) (d3 : ∀ z ∈ cn, dn' z ≤ (outs G z).length)
    (hr : ∀ z ∈ cn, rem' z = (outs G z).length - dn' z + 1) (hr2 : ∀ z, z ∉ cn → rem' z = rem z) (hc : ∀ i u, cn[i]? = some u → cn[i + 1]? = none → x ∈ outs G u) :
    TJ G (vis.set x (E.length + 1)) (low.set x (E.length + 1)) cmp (opn ++ [x]) (cn ++ [x]) dn' siz (E ++ [x]) rem' := by
  have sv := fun y => hg_set vis (x := x) (E.length + 1) (by rw [h.lv]; exact hx) y
  have sl := fun y => hg_set low (x := x) (E.length + 1) (by rw [h.ll]; exact hx) y
  have nE : ∀ p ∈ E, p ≠ x := fun p hp e => hE (e ▸ hp)
  have no : ∀ p ∈ opn, p ≠ x := fun p hp => nE p (h.oE p hp)
  have nc : ∀ p ∈ cn, p ≠ x := fun p hp => nE p (h.cE hp)
  have vo : ∀ p ∈ E, hg (vis.set x (E.length + 1)) p = hg vis p := fun p hp => by rw [sv, if_neg (nE p hp)]
  have lo : ∀ p ∈ E, hg (low.set x (E.length + 1)) p = hg low p := fun p hp => by rw [sl, if_neg (nE p hp)]
  have vx : hg (vis.set x (E.length + 1)) x = E.length + 1 := by rw [sv, if_pos rfl]
  have lx : hg (low.set x (E.length + 1)) x = E.length + 1 := by rw [sl, if_pos rfl]
  have xo : x ∉ opn := fun hm => hE (h.oE x hm)
  have xc : x ∉ cn := fun hm => hE (h.cE hm)
  have SG : ∀ p ∈ cn, ∀ z, Sg vis opn cn p z → Sg (vis.set x (E.length + 1)) (opn ++ [x]) (cn ++ [x]) p z := by
    rintro p hp z ⟨a, b, c⟩
    refine ⟨by simp [a], by rw [vo p (h.cE hp), vo z (h.oE z a)]; exact b, fun q hq hlt => ?_⟩
    simp only [List.mem_append, List.mem_singleton] at hq
    rw [vo z (h.oE z a)]
    rcases hq with hq | rfl
    · rw [vo q (h.cE hq)]
      rw [vo p (h.cE hp), vo q (h.cE hq)] at hlt
      exact c q hq hlt
    · rw [vx]; have := (h.El z (h.oE z a)).2; omega
  have LW : ∀ y ∈ opn, ∀ z, Lw vis low opn cn y z → Lw (vis.set x (E.length + 1)) (low.set x (E.length + 1)) (opn ++ [x]) (cn ++ [x]) y z := by
    rintro p hp z ⟨a, b, c⟩
    refine ⟨by simp [a], by rw [lo p (h.oE p hp), vo z (h.oE z a)]; exact b, fun q hq hlt => ?_⟩
    simp only [List.mem_append, List.mem_singleton] at hq
    rw [vo z (h.oE z a)]
    rcases hq with hq | rfl
    · rw [vo q (h.cE hq)]
      rw [vo p (h.oE p hp), vo q (h.cE hq)] at hlt
      exact c q hq hlt
    · rw [vx]; have := (h.El z (h.oE z a)).2; omega
  refine ⟨by simp [h.lv], by simp [h.ll], h.lc, ?_, ?_, ?_, ?_, ?_, ?_, ?_, ?_, ?_, h.sc, by have := h.sl; simp; omega, ?_, ?_, ?_, ?_, ?_, ?_, ?_, ?_, ?_, ?_, ?_, h.cl⟩
  · intro y hy
    rw [sv]
    by_cases e : y = x
    · subst e; simp
    · simp only [List.mem_append, List.mem_singleton, e, or_false]; exact h.vE y hy
  · rw [List.nodup_append]
    exact ⟨h.En, by simp, by intro a ha b hb e; simp at hb; subst hb e; exact hE ha⟩
  · intro y hy
    simp only [List.mem_append, List.mem_singleton] at hy
    rcases hy with hy | rfl
    · rw [vo y hy]
      have := h.El y hy
      simp; omega
    · rw [vx]; simp [hx]
  · intro y hy
    simp only [List.mem_append, List.mem_singleton] at hy ⊢
    exact hy.imp (h.oE y) id
  · intro y hy
    simp only [List.mem_append, List.mem_singleton] at hy ⊢
    exact hy.imp (h.co y) id
  · rw [List.pairwise_append]
    refine ⟨h.vs.imp_of_mem (fun {p q} hp hq hpq => ?_), by simp, fun p hp q hq => ?_⟩
    · rw [vo p (h.cE hp), vo q (h.cE hq)]; exact hpq
    · simp at hq; subst hq
      rw [vo p (h.cE hp), vx]
      have := (h.El _ (h.cE hp)).2
      omega
  · rw [List.pairwise_append]
    refine ⟨h.ov.imp_of_mem (fun {p q} hp hq hpq => ?_), by simp, fun p hp q hq => ?_⟩
    · rw [vo p (h.oE p hp), vo q (h.oE q hq)]; exact hpq
    · simp at hq; subst hq
      rw [vo p (h.oE p hp), vx]
      have := (h.El _ (h.oE p hp)).2
      omega
  · intro y hy hh
    simp only [List.mem_append, List.mem_singleton, not_or] at hh
    by_cases e : y = x
    · subst e; exact h.c0 y hy (.inr hE)
    · simp only [e, or_false, not_false_eq_true, and_true] at hh
      exact h.c0 y hy hh
  · intro y hy hn
    simp only [List.mem_append, List.mem_singleton, not_or] at hy hn
    exact h.c1 y (hy.resolve_right hn.2) hn.1
  · intro y hy
    simp only [List.mem_append, List.mem_singleton] at hy
    rcases hy with hy | rfl
    · rw [vo y (h.oE y hy), lo y (h.oE y hy)]; exact h.lw y hy
    · rw [vx, lx]; exact Nat.le_refl _
  · intro y hy
    simp only [List.mem_append, List.mem_singleton] at hy
    rcases hy with hy | rfl
    · exact d3 y hy
    · rw [d1 y xc, (h.r2 y hx hE).2]; exact Nat.zero_le _
  · intro y hy hn
    simp only [List.mem_append, List.mem_singleton, not_or] at hy hn
    rw [d1 y hn.1]
    exact h.df y (hy.resolve_right hn.2) hn.1
  · intro y hy
    simp only [List.mem_append, List.mem_singleton] at hy
    rcases hy with hy | rfl
    · exact hr y hy
    · rw [hr2 y xc, d1 y xc, (h.r2 y hx hE).1, (h.r2 y hx hE).2]; rfl
  · intro y hy hn
    simp only [List.mem_append, List.mem_singleton, not_or] at hn
    have hc' : y ∉ cn := fun hm => hn.1 (h.cE hm)
    rw [hr2 y hc', d1 y hc']
    exact h.r2 y hy hn.1
  · intro z hz y hy
    simp only [List.mem_append, List.mem_singleton] at hz ⊢
    rcases hz with hz | rfl
    · rcases d2 z y hy with h1 | h1
      · exact .inl (h.ae z hz y h1)
      · exact .inr h1
    · rw [d1 z xc, (h.r2 z hx hE).2] at hy; simp at hy
  · intro z hz y hy hyo
    simp only [List.mem_append, List.mem_singleton] at hz hyo
    rcases hz with hz | rfl
    · rw [lo z (h.oE z hz)]
      rcases d2 z y hy with h1 | h1
      · have hyo' : y ∈ opn := by
          rcases hyo with a | a
          · exact a
          · exact absurd a (nE y (h.ae z (h.oE z hz) y h1))
        rw [vo y (h.oE y hyo')]
        exact h.ao z hz y h1 hyo'
      · rw [h1, vx]
        have := h.lw z hz
        have := (h.El z (h.oE z hz)).2
        omega
    · rw [d1 z xc, (h.r2 z hx hE).2] at hy; simp at hy
  · intro z hz hn y hy
    simp only [List.mem_append, List.mem_singleton, not_or] at hz hn ⊢
    have hz' := hz.resolve_right hn.2
    obtain ⟨a, b, c⟩ := h.al z hz' hn.1 y hy
    exact ⟨⟨a, nE y b⟩, .inl b, c⟩
  · intro i p q hp hq
    by_cases e : i + 1 < cn.length
    · rw [List.getElem?_append_left (by omega)] at hp
      rw [List.getElem?_append_left e] at hq
      exact h.ch i p q hp hq
    · have e2 : i + 1 < (cn ++ [x]).length := (List.getElem?_eq_some_iff.mp hq).1
      have e3 : i + 1 = cn.length := by simp at e2; omega
      rw [List.getElem?_append_left (by omega)] at hp
      rw [e3, List.getElem?_append_right (by omega)] at hq
      simp at hq
      subst hq
      exact hc i p hp (by rw [e3]; simp)
  · intro z hz
    simp only [List.mem_append, List.mem_singleton] at hz
    rcases hz with hz | rfl
    · obtain ⟨p, hp, a, b, c, d⟩ := h.sg z hz
      refine ⟨p, by simp [hp], SG p hp z a, by rw [lo p (h.cE hp), lo z (h.oE z hz)]; exact b, c.mono (SG p hp), fun hne => ?_⟩
      rw [lo z (h.oE z hz), vo z (h.oE z hz)]; exact d hne
    · have : Sg (vis.set z (E.length + 1)) (opn ++ [z]) (cn ++ [z]) z z := by
        refine ⟨by simp, Nat.le_refl _, fun q hq hlt => hlt⟩
      exact ⟨z, by simp, this, Nat.le_refl _, .refl this, fun hne => absurd rfl hne⟩
  · intro z hz
    simp only [List.mem_append, List.mem_singleton] at hz
    rcases hz with hz | rfl
    · obtain ⟨y, a, b⟩ := h.lp z hz
      have hy : y ∈ opn := b.snd.1
      exact ⟨y, by rw [vo y (h.oE y hy), lo z (h.oE z hz)]; exact a, b.mono (LW z hz)⟩
    · exact ⟨z, by rw [vx, lx], .refl ⟨by simp, by rw [vx, lx]; exact Nat.le_refl _, fun q hq hlt => hlt⟩⟩
/-- The next arc of the top is taken. -/
theorem TJ.next {v : Nat} (h : TJ G vis low cmp opn (cs ++ [v]) dn siz E rem) (hn : dn v < (outs G v).length) : tot G (upd rem v (rem v - 1)) + 1 = tot G rem := by
  have tp := h.top
  have rv := h.r1 v (by simp)
  have tu := tot_upd G rem v (rem v - 1) tp.2.1
  omega
theorem take_succ_mem {l : List Nat} {n x y : Nat} (hx : l[n]? = some x) (hy : y ∈ l.take (n + 1)) : y ∈ l.take n ∨ y = x := by
  rw [List.take_add_one, hx] at hy
  simpa using hy
/-- The next arc leads to a node that has its label. -/
theorem TJ.old {v x : Nat} (h : TJ G vis low cmp opn (cs ++ [v]) dn siz E rem) (hx : (outs G v)[dn v]? = some x) (hE : x ∈ E) (ho : x ∉ opn) : TJ G vis low cmp opn (cs ++ [v]) (upd dn v (dn v + 1)) siz E (upd rem v (rem v - 1)) := by
  have tp := h.top
  have hl := (List.getElem?_eq_some_iff.mp hx).1
  have du : ∀ z, z ≠ v → upd dn v (dn v + 1) z = dn z := fun z hz => by simp [upd, hz]
  have dv : upd dn v (dn v + 1) v = dn v + 1 := by simp [upd]
  have mem : ∀ z, ∀ y ∈ (outs G z).take (upd dn v (dn v + 1) z), y ∈ (outs G z).take (dn z) ∨ y = x := by
    intro z y hy
    by_cases e : z = v
    · subst e; rw [dv] at hy; exact take_succ_mem hx hy
    · rw [du z e] at hy; exact .inl hy
  refine ⟨h.lv, h.ll, h.lc, h.vE, h.En, h.El, h.oE, h.co, h.vs, h.ov, h.c0, h.c1, h.sc, h.sl, h.lw, ?_, ?_, ?_, ?_, ?_, ?_, h.al, h.ch, h.sg, h.lp, h.cl⟩
  · intro z hz
    by_cases e : z = v
    · subst e; rw [dv]; exact hl
    · rw [du z e]; exact h.dl z hz
  · intro z hz hn
    have e : z ≠ v := fun e => hn (by simp [e])
    rw [du z e]; exact h.df z hz hn
  · intro z hz
    by_cases e : z = v
    · subst e; rw [dv]; have := h.r1 z hz; simp [upd]; omega
    · rw [du z e]; simp only [upd, if_neg e]; exact h.r1 z hz
  · intro z hz hn
    have e : z ≠ v := fun e => hn (e ▸ tp.2.2.1)
    rw [du z e]; simp only [upd, if_neg e]; exact h.r2 z hz hn
  · intro z hz y hy
    rcases mem z y hy with h1 | h1
    · exact h.ae z hz y h1
    · exact h1 ▸ hE
  · intro z hz y hy hyo
    rcases mem z y hy with h1 | h1
    · exact h.ao z hz y h1 hyo
    · exact absurd (h1 ▸ hyo) ho
/-- The next arc leads to an open node. -/
theorem TJ.seen {v x : Nat} (h : TJ G vis low cmp opn (cs ++ [v]) dn siz E rem) (hx : (outs G v)[dn v]? = some x) (ho : x ∈ opn) : TJ G vis (low.set v (min (hg low v) (hg vis x))) cmp opn (cs ++ [v]) (upd dn v (dn v + 1)) siz E (upd rem v (rem v - 1)) := by
  have tp := h.top
  have hl := (List.getElem?_eq_some_iff.mp hx).1
  have hm := List.mem_of_getElem? hx
  have du : ∀ z, z ≠ v → upd dn v (dn v + 1) z = dn z := fun z hz => by simp [upd, hz]
  have dv : upd dn v (dn v + 1) v = dn v + 1 := by simp [upd]
  have sl := fun y => hg_set low (x := v) (min (hg low v) (hg vis x)) (by rw [h.ll]; exact tp.2.1) y
  have lv' : hg (low.set v (min (hg low v) (hg vis x))) v = min (hg low v) (hg vis x) := by rw [sl, if_pos rfl]
  have lo : ∀ z, z ≠ v → hg (low.set v (min (hg low v) (hg vis x))) z = hg low z := fun z hz => by rw [sl, if_neg hz]
  have le : ∀ z, hg (low.set v (min (hg low v) (hg vis x))) z ≤ hg low z := by
    intro z
    by_cases e : z = v
    · subst e; rw [lv']; omega
    · rw [lo z e]; exact Nat.le_refl _
  have mem : ∀ z, ∀ y ∈ (outs G z).take (upd dn v (dn v + 1) z), y ∈ (outs G z).take (dn z) ∨ (z = v ∧ y = x) := by
    intro z y hy
    by_cases e : z = v
    · subst e; rw [dv] at hy; exact (take_succ_mem hx hy).imp id (fun a => ⟨rfl, a⟩)
    · rw [du z e] at hy; exact .inl hy
  have ntop : ∀ q ∈ cs ++ [v], ¬ hg vis v < hg vis q := by
    intro q hq hlt
    simp only [List.mem_append, List.mem_singleton] at hq
    rcases hq with hq | rfl
    · have := (tp.1 q hq).2; omega
    · omega
  refine ⟨h.lv, by simp [h.ll], h.lc, h.vE, h.En, h.El, h.oE, h.co, h.vs, h.ov, h.c0, h.c1, h.sc, h.sl, fun z hz => Nat.le_trans (le z) (h.lw z hz), ?_, ?_, ?_, ?_, ?_, ?_, h.al, h.ch, ?_, ?_, h.cl⟩
  · intro z hz
    by_cases e : z = v
    · subst e; rw [dv]; exact hl
    · rw [du z e]; exact h.dl z hz
  · intro z hz hn
    have e : z ≠ v := fun e => hn (by simp [e])
    rw [du z e]; exact h.df z hz hn
  · intro z hz
    by_cases e : z = v
    · subst e; rw [dv]; have := h.r1 z hz; simp [upd]; omega
    · rw [du z e]; simp only [upd, if_neg e]; exact h.r1 z hz
  · intro z hz hn
    have e : z ≠ v := fun e => hn (e ▸ tp.2.2.1)
    rw [du z e]; simp only [upd, if_neg e]; exact h.r2 z hz hn
  · intro z hz y hy
    rcases mem z y hy with h1 | ⟨_, h1⟩
    · exact h.ae z hz y h1
    · exact h1 ▸ h.oE x ho
  · intro z hz y hy hyo
    rcases mem z y hy with h1 | ⟨h0, h1⟩
    · exact Nat.le_trans (le z) (h.ao z hz y h1 hyo)
    · subst h0 h1; rw [lv']; omega
  · intro z hz
    by_cases e : z = v
    · subst e
      have : Sg vis opn (cs ++ [z]) z z := ⟨hz, Nat.le_refl _, fun q hq hlt => hlt⟩
      exact ⟨z, by simp, this, Nat.le_refl _, .refl this, fun hne => absurd rfl hne⟩
    · obtain ⟨p, hp, a, b, c, d⟩ := h.sg z hz
      exact ⟨p, hp, a, by rw [lo z e]; exact Nat.le_trans (le p) b, c, fun hne => by rw [lo z e]; exact d hne⟩
  · intro z hz
    by_cases e : z = v
    · subst e
      by_cases hlt : hg vis x < hg low z
      · refine ⟨x, by rw [lv']; omega, .step ⟨hz, by rw [lv']; have := h.lw z hz; omega, fun q hq hlt => absurd hlt (ntop q hq)⟩ hm (.refl ⟨ho, by rw [lv']; omega, fun q hq hlt => absurd hlt (ntop q hq)⟩)⟩
      · obtain ⟨y, a, b⟩ := h.lp z hz
        refine ⟨y, by rw [lv']; omega, b.mono ?_⟩
        rintro u ⟨i, j, k⟩
        exact ⟨i, Nat.le_trans (le z) j, k⟩
    · obtain ⟨y, a, b⟩ := h.lp z hz
      refine ⟨y, by rw [lo z e]; exact a, b.mono ?_⟩
      rintro u ⟨i, j, k⟩
      exact ⟨i, by rw [lo z e]; exact j, k⟩
/-- The root of a search that is done has its own low. -/
theorem TJ.root {v : Nat} (h : TJ G vis low cmp opn [v] dn siz E rem) : hg low v = hg vis v := by
  have hv := h.co v (by simp)
  have h1 := h.lw v hv
  obtain ⟨y, a, b⟩ := h.lp v hv
  obtain ⟨p, hp, c, _⟩ := h.sg y b.snd.1
  simp at hp
  subst hp
  have := c.2.1
  omega
/-- The top is done, its low below its own place: it stays open. -/
theorem TJ.keep {ds : List Nat} {u v : Nat} (h : TJ G vis low cmp opn (ds ++ [u] ++ [v]) dn siz E rem) (hn : (outs G v).length ≤ dn v) (hne : hg low v ≠ hg vis v) :
    TJ G vis (low.set u (min (hg low u) (hg low v))) cmp opn (ds ++ [u]) dn siz E (upd rem v 0) ∧ tot G (upd rem v 0) + 1 = tot G rem := by
  have tp := h.top
  have hu := tp.1 u (by simp)
  have rv := h.r1 v (by simp)
  have dv := h.dl v (by simp)
  have tu := tot_upd G rem v 0 tp.2.1
  have uo : u ∈ opn := h.co u (by simp)
  have hvl : hg low v < hg vis v := by have := h.lw v tp.2.2.2; omega
  have uN : u < G.length := (h.El u (h.oE u uo)).1
  have sl := fun y => hg_set low (x := u) (min (hg low u) (hg low v)) (by rw [h.ll]; exact uN) y
  have lu : hg (low.set u (min (hg low u) (hg low v))) u = min (hg low u) (hg low v) := by rw [sl, if_pos rfl]
  have lo : ∀ z, z ≠ u → hg (low.set u (min (hg low u) (hg low v))) z = hg low z := fun z hz => by rw [sl, if_neg hz]
  have le : ∀ z, hg (low.set u (min (hg low u) (hg low v))) z ≤ hg low z := by
    intro z
    by_cases e : z = u
    · subst e; rw [lu]; omega
    · rw [lo z e]; exact Nat.le_refl _
  have vs := h.vs
  rw [List.pairwise_append] at vs
  have vs1 := vs.1
  rw [List.pairwise_append] at vs1
  have ntop : ∀ q ∈ ds ++ [u], ¬ hg vis u < hg vis q := by
    intro q hq hlt
    simp only [List.mem_append, List.mem_singleton] at hq
    rcases hq with hq | rfl
    · have := vs1.2.2 q hq u (by simp); omega
    · omega
  have arc : v ∈ outs G u := h.ch ds.length u v (by simp) (by simp)
  have sub : ∀ q, q ∈ ds ++ [u] → q ∈ ds ++ [u] ++ [v] := fun q hq => List.mem_append_left _ hq
  have vn : v ∉ ds ++ [u] := fun hm => (tp.1 v hm).1 rfl
  refine ⟨⟨h.lv, by simp [h.ll], h.lc, h.vE, h.En, h.El, h.oE, fun x hx => h.co x (sub x hx), vs.1, h.ov, h.c0, h.c1, h.sc, h.sl, fun z hz => Nat.le_trans (le z) (h.lw z hz), fun z hz => h.dl z (sub z hz), ?_, ?_, ?_, h.ae, ?_, h.al, ?_, ?_, ?_, h.cl⟩, by omega⟩
  · intro z hz hzn
    by_cases e : z = v
    · subst e; omega
    · exact h.df z hz (by simp only [List.mem_append, List.mem_singleton] at hzn ⊢; simp [hzn, e])
  · intro z hz
    have e : z ≠ v := fun e => vn (e ▸ hz)
    simp only [upd, if_neg e]; exact h.r1 z (sub z hz)
  · intro z hz hE
    have e : z ≠ v := fun e => hE (e ▸ tp.2.2.1)
    simp only [upd, if_neg e]; exact h.r2 z hz hE
  · intro z hz y hy hyo
    exact Nat.le_trans (le z) (h.ao z hz y hy hyo)
  · intro i p q hp hq
    have e2 := (List.getElem?_eq_some_iff.mp hq).1
    exact h.ch i p q (by rw [List.getElem?_append_left (by omega)]; exact hp) (by rw [List.getElem?_append_left (by omega)]; exact hq)
  · intro z hz
    by_cases e : z = u
    · subst e
      have : Sg vis opn (ds ++ [z]) z z := ⟨hz, Nat.le_refl _, fun q hq hlt => hlt⟩
      exact ⟨z, by simp, this, Nat.le_refl _, .refl this, fun hne => absurd rfl hne⟩
    · obtain ⟨p, hp, a, b, c, d⟩ := h.sg z hz
      by_cases ep : p = v
      · subst ep
        have SG : ∀ y, Sg vis opn (ds ++ [u] ++ [p]) p y → Sg vis opn (ds ++ [u]) u y := by
          rintro y ⟨i, j, k⟩
          exact ⟨i, by have := hu.2; omega, fun q hq hlt => absurd hlt (ntop q hq)⟩
        refine ⟨u, by simp, SG z a, by rw [lu, lo z e]; omega, .step ⟨uo, Nat.le_refl _, fun q hq hlt => hlt⟩ arc (c.mono SG), fun _ => ?_⟩
        rw [lo z e]
        by_cases ez : z = p
        · subst ez; exact hvl
        · exact d ez
      · have hp' : p ∈ ds ++ [u] := by
          simp only [List.mem_append, List.mem_singleton] at hp ⊢
          rcases hp with hp | hp
          · exact hp
          · exact absurd hp ep
        have SG : ∀ y, Sg vis opn (ds ++ [u] ++ [v]) p y → Sg vis opn (ds ++ [u]) p y := fun y ⟨i, j, k⟩ => ⟨i, j, fun q hq => k q (sub q hq)⟩
        exact ⟨p, hp', SG z a, by rw [lo z e]; exact Nat.le_trans (le p) b, c.mono SG, fun hne => by rw [lo z e]; exact d hne⟩
  · intro z hz
    by_cases e : z = u
    · subst e
      by_cases hlt : hg low v < hg low z
      · obtain ⟨y, a, b⟩ := h.lp v tp.2.2.2
        refine ⟨y, by rw [lu]; omega, .step ⟨hz, by rw [lu]; have := h.lw z hz; omega, fun q hq hlt => absurd hlt (ntop q hq)⟩ arc (b.mono ?_)⟩
        rintro t ⟨i, j, k⟩
        exact ⟨i, by rw [lu]; omega, fun q hq hlt => absurd hlt (ntop q hq)⟩
      · obtain ⟨y, a, b⟩ := h.lp z hz
        refine ⟨y, by rw [lu]; omega, b.mono ?_⟩
        rintro t ⟨i, j, k⟩
        exact ⟨i, by rw [lu]; omega, fun q hq => k q (sub q hq)⟩
    · obtain ⟨y, a, b⟩ := h.lp z hz
      refine ⟨y, by rw [lo z e]; exact a, b.mono ?_⟩
      rintro t ⟨i, j, k⟩
      exact ⟨i, by rw [lo z e]; exact j, fun q hq => k q (sub q hq)⟩
/-- The nodes above the top on the open stack. -/
theorem TJ.split {v : Nat} (h : TJ G vis low cmp opn (cs ++ [v]) dn siz E rem) : ∃ os ts, opn = os ++ v :: ts ∧ (∀ x ∈ os, hg vis x < hg vis v) ∧ (∀ x ∈ ts, hg vis v < hg vis x) := by
  obtain ⟨os, ts, e⟩ := List.append_of_mem h.top.2.2.2
  have ov := h.ov
  rw [e, List.pairwise_append, List.pairwise_cons] at ov
  exact ⟨os, ts, e, fun x hx => ov.2.2 x hx v (by simp), ov.2.1.1⟩
/-- The top is done and has its own low: it and all above it get the next label. -/
theorem TJ.label {os ts : List Nat} {v : Nat} (hG : ∀ u, ∀ x ∈ outs G u, x < G.length) (h : TJ G vis low cmp (os ++ v :: ts) (cs ++ [v]) dn siz E rem) (hn : (outs G v).length ≤ dn v) (he : hg low v = hg vis v) :
    TJ G vis low (lab (siz.length : Int) cmp (v :: ts)) os cs dn (siz ++ [(v :: ts).length]) E (upd rem v 0) ∧ tot G (upd rem v 0) + 1 = tot G rem := by
  have tp := h.top
  have rv := h.r1 v (by simp)
  have dv := h.dl v (by simp)
  have tu := tot_upd G rem v 0 tp.2.1
  have ov := h.ov
  rw [List.pairwise_append, List.pairwise_cons] at ov
  have lts : ∀ x ∈ ts, hg vis v < hg vis x := ov.2.1.1
  have los : ∀ x ∈ os, hg vis x < hg vis v := fun x hx => ov.2.2 x hx v (by simp)
  have inS : ∀ x ∈ v :: ts, x ∈ os ++ v :: ts ∧ hg vis v ≤ hg vis x := by
    intro x hx
    refine ⟨List.mem_append_right _ hx, ?_⟩
    simp only [List.mem_cons] at hx
    rcases hx with rfl | hx
    · exact Nat.le_refl _
    · exact Nat.le_of_lt (lts x hx)
  have inO : ∀ x ∈ os ++ v :: ts, hg vis v ≤ hg vis x → x ∈ v :: ts := by
    intro x hx hle
    rcases List.mem_append.mp hx with h1 | h1
    · have := los x h1; omega
    · exact h1
  have low' : ∀ x ∈ os ++ v :: ts, hg vis x < hg vis v → x ∈ os := by
    intro x hx hlt
    rcases List.mem_append.mp hx with h1 | h1
    · exact h1
    · have := (inS x h1).2; omega
  have disj : ∀ x ∈ os, x ∉ v :: ts := fun x hx hm => by have := los x hx; have := (inS x hm).2; omega
  have SN : ∀ x ∈ v :: ts, x < cmp.length := fun x hx => by rw [h.lc]; exact (h.El x (h.oE x (inS x hx).1)).1
  have LA := lab_at (siz.length : Int) (v :: ts) cmp SN
  have owner : ∀ x ∈ v :: ts, hg low v ≤ hg low x ∧ RI G (Sg vis (os ++ v :: ts) (cs ++ [v]) v) v x ∧ (x ≠ v → hg low x < hg vis x) := by
    intro x hx
    obtain ⟨p, hp, a, b, c, d⟩ := h.sg x (inS x hx).1
    have : p = v := by
      simp only [List.mem_append, List.mem_singleton] at hp
      rcases hp with hp | hp
      · have := a.2.2 v (by simp) (tp.1 p hp).2
        have := (inS x hx).2
        omega
      · exact hp
    subst this
    exact ⟨b, c, d⟩
  have SgS : ∀ z, Sg vis (os ++ v :: ts) (cs ++ [v]) v z → z ∈ v :: ts := fun z ⟨a, b, _⟩ => inO z a b
  have back : ∀ n x, hg vis x ≤ n → x ∈ v :: ts → RI G (· ∈ v :: ts) x v := by
    intro n
    induction n with
    | zero =>
      intro x hx hm
      by_cases e : x = v
      · subst e; exact .refl hm
      · have := (owner x hm).2.2 e; omega
    | succ n ih =>
      intro x hx hm
      by_cases e : x = v
      · subst e; exact .refl hm
      · obtain ⟨y, a, b⟩ := h.lp x (inS x hm).1
        have o := owner x hm
        have b' : RI G (· ∈ v :: ts) x y := b.mono (fun z hz => inO z hz.1 (by have := hz.2.1; omega))
        have := o.2.2 e
        exact b'.trans (ih y (by omega) b'.snd)
  have SR : ∀ x ∈ v :: ts, ∀ y ∈ v :: ts, RI G (· ∈ v :: ts) x y := fun x hx y hy => (back _ x (Nat.le_refl _) hx).trans ((owner y hy).2.1.mono SgS)
  have cm1 : ∀ x ∈ v :: ts, cmp[x]? = some (-1) := fun x hx => h.c0 x (h.El x (h.oE x (inS x hx).1)).1 (.inl (inS x hx).1)
  have old : ∀ (c z : Nat), cmp[z]? = some (c : Int) → z ∉ v :: ts := by
    intro c z hz hm
    rw [cm1 z hm] at hz; injection hz with hz; omega
  have sub : ∀ q, q ∈ cs → q ∈ cs ++ [v] := fun q hq => List.mem_append_left _ hq
  have vn : v ∉ cs := fun hm => (tp.1 v hm).1 rfl
  have snd : (v :: ts).Nodup := by
    have := List.Pairwise.imp (S := fun a b => a ≠ b) (fun {a b} hab => by intro e; subst e; omega) h.ov
    exact (List.nodup_append.mp this).2.1
  refine ⟨⟨h.lv, h.ll, by rw [lab_len]; exact h.lc, h.vE, h.En, h.El, fun x hx => h.oE x (List.mem_append_left _ hx), ?_, ?_, ov.1, ?_, ?_, ?_, ?_, fun x hx => h.lw x (List.mem_append_left _ hx), fun z hz => h.dl z (sub z hz), ?_, ?_, ?_, h.ae, ?_, ?_, ?_, ?_, ?_, ?_⟩, by omega⟩
  · intro x hx
    exact low' x (h.co x (sub x hx)) (tp.1 x hx).2
  · have := h.vs
    rw [List.pairwise_append] at this
    exact this.1
  · intro x hx hh
    have hS : x ∉ v :: ts := by
      rcases hh with hh | hh
      · exact disj x hh
      · exact fun hm => hh (h.oE x (inS x hm).1)
    rw [LA, if_neg hS]
    exact h.c0 x hx (hh.imp (fun a => List.mem_append_left _ a) id)
  · intro x hx ho
    rw [LA]
    by_cases hS : x ∈ v :: ts
    · rw [if_pos hS]; exact ⟨siz.length, rfl, by simp⟩
    · rw [if_neg hS]
      obtain ⟨c, a, b⟩ := h.c1 x hx (fun hm => (List.mem_append.mp hm).elim ho hS)
      exact ⟨c, a, by simp; omega⟩
  · intro c n hc
    by_cases e : c < siz.length
    · rw [List.getElem?_append_left e] at hc
      obtain ⟨l, l1, l2, l3⟩ := h.sc c n hc
      refine ⟨l, l1, l2, fun x => ?_⟩
      rw [l3, LA]
      by_cases hS : x ∈ v :: ts
      · rw [if_pos hS, cm1 x hS]
        constructor
        · intro a; injection a with a; omega
        · intro a; injection a with a; omega
      · rw [if_neg hS]
    · have e2 := (List.getElem?_eq_some_iff.mp hc).1
      have e3 : c = siz.length := by simp at e2; omega
      subst e3
      rw [List.getElem?_append_right (Nat.le_refl _)] at hc
      simp at hc
      refine ⟨v :: ts, snd, by simpa using hc, fun x => ?_⟩
      rw [LA]
      by_cases hS : x ∈ v :: ts
      · simp [hS]
      · rw [if_neg hS]
        constructor
        · intro a; exact absurd a hS
        · intro a
          have hxN := (List.getElem?_eq_some_iff.mp a).1
          rw [h.lc] at hxN
          by_cases hE : x ∈ E
          · by_cases ho : x ∈ os ++ v :: ts
            · rw [h.c0 x hxN (.inl ho)] at a; injection a with a; omega
            · obtain ⟨c, b1, b2⟩ := h.c1 x hE ho
              rw [b1] at a; injection a with a; omega
          · rw [h.c0 x hxN (.inr hE)] at a; injection a with a; omega
  · have := h.sl
    simp at this ⊢; omega
  · intro z hz hzn
    by_cases e : z = v
    · subst e; omega
    · exact h.df z hz (by simp only [List.mem_append, List.mem_singleton]; simp [hzn, e])
  · intro z hz
    have e : z ≠ v := fun e => vn (e ▸ hz)
    simp only [upd, if_neg e]; exact h.r1 z (sub z hz)
  · intro z hz hE
    have e : z ≠ v := fun e => hE (e ▸ tp.2.2.1)
    simp only [upd, if_neg e]; exact h.r2 z hz hE
  · intro z hz y hy hyo
    exact h.ao z (List.mem_append_left _ hz) y hy (List.mem_append_left _ hyo)
  · intro x hx ho y hy
    by_cases hS : x ∈ v :: ts
    · have xo := (inS x hS).1
      have hd : dn x = (outs G x).length := by
        by_cases e : x = v
        · subst e; omega
        · refine h.df x hx (fun hm => ?_)
          simp only [List.mem_append, List.mem_singleton] at hm
          rcases hm with hm | hm
          · have := (tp.1 x hm).2; have := (inS x hS).2; omega
          · exact e hm
      have hy' : y ∈ (outs G x).take (dn x) := by rw [hd, List.take_length]; exact hy
      have yE := h.ae x hx y hy'
      have yo : y ∉ os := by
        intro hm
        have a := h.ao x xo y hy' (List.mem_append_left _ hm)
        have b := los y hm
        have c := (owner x hS).1
        omega
      refine ⟨yo, yE, fun a b ha hb => ?_⟩
      rw [LA, if_pos hS] at ha
      injection ha with ha
      rw [LA] at hb
      by_cases hyS : y ∈ v :: ts
      · rw [if_pos hyS] at hb; injection hb with hb; omega
      · rw [if_neg hyS] at hb
        obtain ⟨c, b1, b2⟩ := h.c1 y yE (fun hm => (List.mem_append.mp hm).elim yo hyS)
        rw [b1] at hb; injection hb with hb; omega
    · have xo : x ∉ os ++ v :: ts := fun hm => (List.mem_append.mp hm).elim ho hS
      obtain ⟨a, b, c⟩ := h.al x hx xo y hy
      refine ⟨fun hm => a (List.mem_append_left _ hm), b, fun p q hp hq => ?_⟩
      rw [LA, if_neg hS] at hp
      rw [LA, if_neg (fun hm => a (List.mem_append_right _ hm))] at hq
      exact c p q hp hq
  · intro i p q hp hq
    have e2 := (List.getElem?_eq_some_iff.mp hq).1
    exact h.ch i p q (by rw [List.getElem?_append_left (by omega)]; exact hp) (by rw [List.getElem?_append_left (by omega)]; exact hq)
  · intro z hz
    obtain ⟨p, hp, a, b, c, d⟩ := h.sg z (List.mem_append_left _ hz)
    have hp' : p ∈ cs := by
      simp only [List.mem_append, List.mem_singleton] at hp
      rcases hp with hp | rfl
      · exact hp
      · have := a.2.1; have := los z hz; omega
    have SG : ∀ y, Sg vis (os ++ v :: ts) (cs ++ [v]) p y → Sg vis os cs p y := fun y ⟨i, j, k⟩ => ⟨low' y i (k v (by simp) (tp.1 p hp').2), j, fun q hq => k q (sub q hq)⟩
    exact ⟨p, hp', SG z a, b, c.mono SG, d⟩
  · intro z hz
    obtain ⟨y, a, b⟩ := h.lp z (List.mem_append_left _ hz)
    refine ⟨y, a, b.mono ?_⟩
    rintro t ⟨i, j, k⟩
    exact ⟨low' t i (k v (by simp) (los z hz)), j, fun q hq => k q (sub q hq)⟩
  · intro c x y hx hy
    rw [LA] at hx hy
    by_cases hc : c = siz.length
    · subst hc
      have key : ∀ z, (if z ∈ v :: ts then some (siz.length : Int) else cmp[z]?) = some ((siz.length : Nat) : Int) → z ∈ v :: ts := by
        intro z hz
        by_cases hS : z ∈ v :: ts
        · exact hS
        · rw [if_neg hS] at hz
          have hxN := (List.getElem?_eq_some_iff.mp hz).1
          rw [h.lc] at hxN
          by_cases hE : z ∈ E
          · by_cases ho : z ∈ os ++ v :: ts
            · rw [h.c0 z hxN (.inl ho)] at hz; injection hz with hz; omega
            · obtain ⟨c, b1, b2⟩ := h.c1 z hE ho
              rw [b1] at hz; injection hz with hz; omega
          · rw [h.c0 z hxN (.inr hE)] at hz; injection hz with hz; omega
      exact (SR x (key x hx) y (key y hy)).mono (fun z hz => by rw [LA, if_pos hz])
    · have ne : ∀ z, (if z ∈ v :: ts then some (siz.length : Int) else cmp[z]?) = some (c : Int) → cmp[z]? = some (c : Int) := by
        intro z hz
        by_cases hS : z ∈ v :: ts
        · rw [if_pos hS] at hz; injection hz with hz; omega
        · rw [if_neg hS] at hz; exact hz
      refine (h.cl c x y (ne x hx) (ne y hy)).mono (fun z hz => ?_)
      rw [LA, if_neg (old c z hz)]; exact hz
end
/-- What components gives. -/
structure Comp (G : List (List Nat)) (cmp : List Int) (siz : List Nat) : Prop where
  len : cmp.length = G.length
  all : ∀ x, x < G.length → ∃ c : Nat, cmp[x]? = some (c : Int) ∧ c < siz.length
  arc : ∀ u x, x ∈ outs G u → ∀ a b : Int, cmp[u]? = some a → cmp[x]? = some b → b ≤ a
  cnt : ∀ (c n : Nat), siz[c]? = some n → ∃ l : List Nat, l.Nodup ∧ l.length = n ∧ ∀ x, x ∈ l ↔ cmp[x]? = some (c : Int)
  con : ∀ (c x y : Nat), cmp[x]? = some (c : Int) → cmp[y]? = some (c : Int) → RI G (fun z => cmp[z]? = some (c : Int)) x y
section
variable {G : List (List Nat)} {vis low : List Nat} {cmp : List Int} {opn cn cs : List Nat} {dn : Nat → Nat} {siz E : List Nat} {rem : Nat → Nat}
theorem TJ.enterTop {v x : Nat} (h : TJ G vis low cmp opn (cs ++ [v]) dn siz E rem) (hx : (outs G v)[dn v]? = some x) (hxN : x < G.length) (hE : x ∉ E) :
    TJ G (vis.set x (E.length + 1)) (low.set x (E.length + 1)) cmp (opn ++ [x]) (cs ++ [v] ++ [x]) (upd dn v (dn v + 1)) siz (E ++ [x]) (upd rem v (rem v - 1)) := by
  have hl := (List.getElem?_eq_some_iff.mp hx).1
  have tp := h.top
  refine h.enter hxN hE _ _ ?_ ?_ ?_ ?_ ?_ ?_
  · intro z hz
    have e : z ≠ v := fun e => hz (by simp [e])
    simp [upd, e]
  · intro z y hy
    by_cases e : z = v
    · subst e; simp only [upd, if_pos] at hy; exact take_succ_mem hx hy
    · simp only [upd, if_neg e] at hy; exact .inl hy
  · intro z hz
    by_cases e : z = v
    · subst e; simp only [upd, if_pos]; exact hl
    · simp only [upd, if_neg e]; exact h.dl z hz
  · intro z hz
    have := h.r1 z hz
    by_cases e : z = v
    · subst e; simp only [upd, if_pos]; omega
    · simp only [upd, if_neg e]; exact this
  · intro z hz
    have e : z ≠ v := fun e => hz (by simp [e])
    simp [upd, e]
  · intro i u hi hn
    have h1 := (List.getElem?_eq_some_iff.mp hi).1
    have h2 := List.getElem?_eq_none_iff.mp hn
    have h3 : i = cs.length := by simp at h1 h2; omega
    subst h3
    simp at hi
    subst hi
    exact List.mem_of_getElem? hx
theorem TJ.enterRoot {x : Nat} (h : TJ G vis low cmp opn [] dn siz E rem) (hxN : x < G.length) (hE : x ∉ E) :
    TJ G (vis.set x (E.length + 1)) (low.set x (E.length + 1)) cmp (opn ++ [x]) [x] dn siz (E ++ [x]) rem :=
  h.enter hxN hE dn rem (fun _ _ => rfl) (fun _ _ hy => .inl hy) (by simp) (by simp) (fun _ _ => rfl) (by simp)
theorem TJ.final (h : TJ G vis low cmp [] [] dn siz E rem) (hE : ∀ x, x < G.length → x ∈ E) : Comp G cmp siz := by
  refine ⟨h.lc, fun x hx => h.c1 x (hE x hx) (by simp), ?_, h.sc, h.cl⟩
  intro u x hm a b ha hb
  have hu := (List.getElem?_eq_some_iff.mp ha).1
  rw [h.lc] at hu
  exact (h.al u (hE u hu) (by simp) x hm).2.2 a b ha hb
theorem TJ.short (h : TJ G vis low cmp opn cn dn siz E rem) : opn.length ≤ G.length ∧ cn.length ≤ G.length := by
  have h1 := h.sl
  have h2 := h.Elen
  refine ⟨by omega, nodup_len _ cn ?_ (fun x hx => (h.El x (h.cE hx)).1)⟩
  exact h.vs.imp (fun {a b} hab e => by subst e; omega)
theorem cal_map {v m : Nat} (hv : v ∉ cs) (dn : Nat → Nat) : (cs ++ [v]).map (fun x => (x, upd dn v m x)) = cs.map (fun x => (x, dn x)) ++ [(v, m)] := by
  rw [List.map_append]
  congr 1
  · refine List.map_congr_left (fun x hx => ?_)
    have : x ≠ v := fun e => hv (e ▸ hx)
    simp [upd, this]
  · simp [upd]
theorem lab_eq {c : Int} {m m' : List Int} {l : List Nat} (hl : ∀ x ∈ l, x < m.length) (h : ∀ y, m'[y]? = if y ∈ l then some c else m[y]?) : m' = lab c m l :=
  List.ext_getElem? (fun y => by rw [h, lab_at c l m hl])
end
end Go.Proofs.YbulkctquGreatFmt

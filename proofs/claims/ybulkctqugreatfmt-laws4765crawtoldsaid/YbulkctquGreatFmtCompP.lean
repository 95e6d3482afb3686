/-
  components over a graph whose arcs all go forward, no Go in sight: every component is one node.
-/
import Derived.Test.YbulkctquGreatFmtOrdP
import Derived.Test.YbulkctquGreatFmtHeaps
namespace Go.Proofs.YbulkctquGreatFmt
set_option linter.unusedVariables false

theorem hg_set (l : List Nat) {x : Nat} (v : Nat) (hx : x < l.length) (y : Nat) : hg (l.set x v) y = if y = x then v else hg l y := by
  unfold hg
  simp only [List.getD_eq_getElem?_getD]
  by_cases e : y = x
  · subst e; simp [hx]
  · rw [List.getElem?_set_ne (Ne.symm e)]; simp [e]
def tot (G : List (List Nat)) (rem : Nat → Nat) : Nat := ((List.range G.length).map rem).sum
def upd (rem : Nat → Nat) (v a : Nat) : Nat → Nat := fun y => if y = v then a else rem y
theorem tot_upd (G : List (List Nat)) (rem : Nat → Nat) (v a : Nat) (hv : v < G.length) : tot G (upd rem v a) + rem v = tot G rem + a := by
  have := sum_upd (upd rem v a) rem v (List.range G.length) List.nodup_range (List.mem_range.mpr hv) (fun u _ hne => by simp [upd, hne])
  simpa [tot, upd] using this

structure CI (G : List (List Nat)) (τ : Nat → Nat) (vis low : List Nat) (cmp : List Int) (cal : List (Nat × Nat)) (siz E : List Nat) (rem : Nat → Nat) : Prop where
  lv : vis.length = G.length
  ll : low.length = G.length
  lc : cmp.length = G.length
  fr : ∀ p ∈ cal, p.2 ≤ (outs G p.1).length
  ts : cal.Pairwise (fun p q => τ p.1 < τ q.1)
  vs : cal.Pairwise (fun p q => hg vis p.1 < hg vis q.1)
  lo : ∀ p ∈ cal, hg low p.1 = hg vis p.1
  vE : ∀ x, x < G.length → (hg vis x ≠ 0 ↔ x ∈ E)
  En : E.Nodup
  El : ∀ x ∈ E, x < G.length ∧ hg vis x ≤ E.length
  cE : ∀ p ∈ cal, p.1 ∈ E
  c1 : ∀ x ∈ E, (∀ p ∈ cal, p.1 ≠ x) → ∃ c : Nat, cmp[x]? = some (c : Int) ∧ c < siz.length
  s1 : ∀ s ∈ siz, s = 1
  r1 : ∀ p ∈ cal, rem p.1 = (outs G p.1).length - p.2 + 1
  r2 : ∀ x, x < G.length → x ∉ E → rem x = (outs G x).length + 1
  sl : siz.length + cal.length = E.length
section
variable {G : List (List Nat)} {τ : Nat → Nat} {vis low : List Nat} {cmp : List Int} {cal cs : List (Nat × Nat)} {siz E : List Nat} {rem : Nat → Nat}
theorem CI.start (h1 : vis = List.replicate G.length 0) (h2 : low.length = G.length) (h3 : cmp.length = G.length) : CI G τ vis low cmp [] [] [] (fun x => (outs G x).length + 1) := by
  subst h1
  refine ⟨by simp, h2, h3, by simp, List.Pairwise.nil, List.Pairwise.nil, by simp, fun x hx => ?_, List.nodup_nil, by simp, by simp, by simp, by simp, by simp, fun _ _ _ => rfl, rfl⟩
  simp [hg, hx]
theorem CI.Elen (h : CI G τ vis low cmp cal siz E rem) : E.length ≤ G.length := nodup_len _ E h.En (fun x hx => (h.El x hx).1)
theorem CI.enter (h : CI G τ vis low cmp cal siz E rem) {x : Nat} (hx : x < G.length) (hE : x ∉ E) (ht : ∀ p ∈ cal, τ p.1 < τ x) :
    CI G τ (vis.set x (E.length + 1)) (low.set x (E.length + 1)) cmp (cal ++ [(x, 0)]) siz (E ++ [x]) rem := by
  have sv := fun y => hg_set vis (x := x) (E.length + 1) (by rw [h.lv]; exact hx) y
  have sl := fun y => hg_set low (x := x) (E.length + 1) (by rw [h.ll]; exact hx) y
  have ne : ∀ p ∈ cal, p.1 ≠ x := fun p hp e => hE (e ▸ h.cE p hp)
  refine ⟨by simp [h.lv], by simp [h.ll], h.lc, ?_, ?_, ?_, ?_, ?_, ?_, ?_, ?_, ?_, h.s1, ?_, ?_, by have := h.sl; simp; omega⟩
  · intro p hp
    simp only [List.mem_append, List.mem_singleton] at hp
    rcases hp with hp | rfl
    · exact h.fr p hp
    · exact Nat.zero_le _
  · rw [List.pairwise_append]
    exact ⟨h.ts, by simp, fun p hp q hq => by simp at hq; subst hq; exact ht p hp⟩
  · rw [List.pairwise_append]
    refine ⟨h.vs.imp_of_mem (fun {p q} hp hq hpq => ?_), by simp, fun p hp q hq => ?_⟩
    · rw [sv, sv, if_neg (ne p hp), if_neg (ne q hq)]; exact hpq
    · simp at hq; subst hq
      rw [sv, sv, if_neg (ne p hp), if_pos rfl]
      have := (h.El _ (h.cE p hp)).2
      omega
  · intro p hp
    simp only [List.mem_append, List.mem_singleton] at hp
    rcases hp with hp | rfl
    · rw [sv, sl, if_neg (ne p hp), if_neg (ne p hp)]; exact h.lo p hp
    · rw [sv, sl, if_pos rfl, if_pos rfl]
  · intro y hy
    rw [sv]
    by_cases e : y = x
    · subst e; simp
    · simp only [List.mem_append, List.mem_singleton, e, or_false]; exact h.vE y hy
  · rw [List.nodup_append]
    exact ⟨h.En, by simp, by intro a ha b hb e; simp at hb; subst hb e; exact hE ha⟩
  · intro y hy
    simp only [List.mem_append, List.mem_singleton] at hy
    rw [sv]
    rcases hy with hy | rfl
    · have e : y ≠ x := fun e => hE (e ▸ hy)
      rw [if_neg e]
      have := h.El y hy
      simp; omega
    · simp [hx]
  · intro p hp
    simp only [List.mem_append, List.mem_singleton] at hp ⊢
    rcases hp with hp | rfl
    · exact .inl (h.cE p hp)
    · exact .inr rfl
  · intro y hy hn
    have e : y ≠ x := fun e => hn (x, 0) (by simp) e.symm
    simp only [List.mem_append, List.mem_singleton, e, or_false] at hy
    exact h.c1 y hy (fun p hp => hn p (by simp [hp]))
  · intro p hp
    simp only [List.mem_append, List.mem_singleton] at hp
    rcases hp with hp | rfl
    · exact h.r1 p hp
    · simpa using h.r2 x hx hE
  · intro y hy hn
    simp only [List.mem_append, not_or] at hn
    exact h.r2 y hy hn.1
theorem CI.top {v n : Nat} (h : CI G τ vis low cmp (cs ++ [(v, n)]) siz E rem) : (∀ p ∈ cs, p.1 ≠ v ∧ τ p.1 < τ v ∧ hg vis p.1 < hg vis v) ∧ v < G.length ∧ v ∈ E := by
  have h1 := h.ts
  have h2 := h.vs
  rw [List.pairwise_append] at h1 h2
  refine ⟨fun p hp => ?_, (h.El v (h.cE (v, n) (by simp))).1, h.cE (v, n) (by simp)⟩
  have a := h1.2.2 p hp (v, n) (by simp)
  have b := h2.2.2 p hp (v, n) (by simp)
  refine ⟨fun e => ?_, a, b⟩
  simp only [e] at a
  omega
theorem CI.step {v n : Nat} (h : CI G τ vis low cmp (cs ++ [(v, n)]) siz E rem) (hn : n < (outs G v).length) : CI G τ vis low cmp (cs ++ [(v, n + 1)]) siz E (upd rem v (rem v - 1)) ∧ tot G (upd rem v (rem v - 1)) + 1 = tot G rem := by
  have tp := h.top
  have rv := h.r1 (v, n) (by simp)
  simp only at rv
  have tu := tot_upd G rem v (rem v - 1) tp.2.1
  refine ⟨⟨h.lv, h.ll, h.lc, ?_, ?_, ?_, ?_, h.vE, h.En, h.El, ?_, ?_, h.s1, ?_, ?_, by have := h.sl; simp at this ⊢; omega⟩, by omega⟩
  · intro p hp
    simp only [List.mem_append, List.mem_singleton] at hp
    rcases hp with hp | rfl
    · exact h.fr p (by simp [hp])
    · exact hn
  · have := h.ts
    rw [List.pairwise_append] at this ⊢
    exact ⟨this.1, by simp, fun p hp q hq => by simp at hq; subst hq; exact this.2.2 p hp (v, n) (by simp)⟩
  · have := h.vs
    rw [List.pairwise_append] at this ⊢
    exact ⟨this.1, by simp, fun p hp q hq => by simp at hq; subst hq; exact this.2.2 p hp (v, n) (by simp)⟩
  · intro p hp
    simp only [List.mem_append, List.mem_singleton] at hp
    rcases hp with hp | rfl
    · exact h.lo p (by simp [hp])
    · exact h.lo (v, n) (by simp)
  · intro p hp
    simp only [List.mem_append, List.mem_singleton] at hp
    rcases hp with hp | rfl
    · exact h.cE p (by simp [hp])
    · exact tp.2.2
  · intro x hx hp
    refine h.c1 x hx (fun p hp' => ?_)
    simp only [List.mem_append, List.mem_singleton] at hp'
    rcases hp' with hp' | rfl
    · exact hp p (by simp [hp'])
    · exact hp (v, n + 1) (by simp)
  · intro p hp
    simp only [List.mem_append, List.mem_singleton] at hp
    rcases hp with hp | rfl
    · simp only [upd, if_neg (tp.1 p hp).1]; exact h.r1 p (by simp [hp])
    · simp only [upd, if_pos]; omega
  · intro x hx hE
    have e : x ≠ v := fun e => hE (e ▸ tp.2.2)
    simp only [upd, if_neg e]; exact h.r2 x hx hE
theorem CI.pop {v n : Nat} (h : CI G τ vis low cmp (cs ++ [(v, n)]) siz E rem) (hn : (outs G v).length ≤ n) : CI G τ vis low (cmp.set v (siz.length : Int)) cs (siz ++ [1]) E (upd rem v 0) ∧ tot G (upd rem v 0) + 1 = tot G rem := by
  have tp := h.top
  have rv := h.r1 (v, n) (by simp)
  have fv := h.fr (v, n) (by simp)
  simp only at rv fv
  have tu := tot_upd G rem v 0 tp.2.1
  have ts := h.ts
  have vs := h.vs
  rw [List.pairwise_append] at ts vs
  refine ⟨⟨h.lv, h.ll, by simp [h.lc], fun p hp => h.fr p (by simp [hp]), ts.1, vs.1, fun p hp => h.lo p (by simp [hp]), h.vE, h.En, h.El, fun p hp => h.cE p (by simp [hp]), ?_, ?_, ?_, ?_, by have := h.sl; simp at this ⊢; omega⟩, by omega⟩
  · intro x hx hp
    by_cases e : x = v
    · subst e
      exact ⟨siz.length, by rw [List.getElem?_set_self (by rw [h.lc]; exact tp.2.1)], by simp⟩
    · obtain ⟨c, a, b⟩ := h.c1 x hx (fun p hp' => by
        simp only [List.mem_append, List.mem_singleton] at hp'
        rcases hp' with hp' | rfl
        · exact hp p hp'
        · exact Ne.symm e)
      exact ⟨c, by rw [List.getElem?_set_ne (Ne.symm e)]; exact a, by simp; omega⟩
  · intro s hs
    simp only [List.mem_append, List.mem_singleton] at hs
    rcases hs with hs | rfl
    · exact h.s1 s hs
    · rfl
  · intro p hp
    simp only [upd, if_neg (tp.1 p hp).1]; exact h.r1 p (by simp [hp])
  · intro x hx hE
    have e : x ≠ v := fun e => hE (e ▸ tp.2.2)
    simp only [upd, if_neg e]; exact h.r2 x hx hE
/-- An arc to a node already reached leads to one with a label. -/
theorem CI.arc {v n x : Nat} (h : CI G τ vis low cmp (cs ++ [(v, n)]) siz E rem) (ht : τ v < τ x) (hx : x ∈ E) : ∃ c : Nat, cmp[x]? = some (c : Int) ∧ c < siz.length := by
  have tp := h.top
  refine h.c1 x hx (fun p hp e => ?_)
  simp only [List.mem_append, List.mem_singleton] at hp
  rcases hp with hp | rfl
  · have := (tp.1 p hp).2.1; rw [e] at this; omega
  · simp only at e; rw [e] at ht; omega
theorem CI.above {v n x : Nat} (h : CI G τ vis low cmp (cs ++ [(v, n)]) siz E rem) (ht : τ v < τ x) : ∀ p ∈ cs ++ [(v, n)], τ p.1 < τ x := by
  have tp := h.top
  intro p hp
  simp only [List.mem_append, List.mem_singleton] at hp
  rcases hp with hp | rfl
  · have := (tp.1 p hp).2.1; omega
  · exact ht
end
end Go.Proofs.YbulkctquGreatFmt

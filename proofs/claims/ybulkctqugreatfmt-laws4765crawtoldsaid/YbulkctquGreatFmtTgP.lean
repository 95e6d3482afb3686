/-
  tangle's search, no Go in sight: paths, ways that close no cycle, the trail, the count of walks.
-/
import Derived.Test.YbulkctquGreatFmtTjP
import Derived.Test.YbulkctquGreatFmtOthers
namespace Go.Proofs.YbulkctquGreatFmt
set_option linter.unusedVariables false

/-- A way of a choice: an arc from each node of f into i. -/
structure Alt where
  f : List Nat
  i : Nat
def Rch (G : List (List Nat)) : Nat → Nat → Prop := RI G (fun _ => True)
theorem Rch.refl {G : List (List Nat)} (x : Nat) : Rch G x x := RI.refl trivial
theorem Rch.cons {G : List (List Nat)} {x y z : Nat} (h : y ∈ outs G x) (k : Rch G y z) : Rch G x z := RI.step trivial h k
theorem Rch.tail {G : List (List Nat)} {x y z : Nat} (h : Rch G x y) (k : z ∈ outs G y) : Rch G x z := RI.trans h (Rch.cons k (Rch.refl z))
def Acy (G : List (List Nat)) : Prop := ∀ x y, y ∈ outs G x → ¬ Rch G y x
def pickG (G : List (List Nat)) (A : Alt) : List (List Nat) := arcsTo G A.f A.i
def dropAt (G : List (List Nat)) (t : Nat) : List (List Nat) := G.set t (outs G t).dropLast
def unpickG (G : List (List Nat)) (A : Alt) : List (List Nat) := A.f.foldl dropAt G
def OpenW (G : List (List Nat)) (A : Alt) : Prop := ∀ t ∈ A.f, ¬ Rch G A.i t

theorem outs_arcT (G : List (List Nat)) (t u x : Nat) (ht : t < G.length) : outs (arc G t u) x = if x = t then outs G t ++ [u] else outs G x := by
  unfold arc outs
  simp only [List.getD_eq_getElem?_getD]
  by_cases e : x = t
  · subst e; simp [ht]
  · rw [List.getElem?_set_ne (Ne.symm e)]; simp [e]
theorem outs_arc_mem (G : List (List Nat)) (t u x y : Nat) (h : y ∈ outs (arc G t u) x) : y ∈ outs G x ∨ (x = t ∧ y = u) := by
  by_cases ht : t < G.length
  · rw [outs_arcT G t u x ht] at h
    by_cases e : x = t
    · subst e; simp at h; rcases h with h | h; exact .inl h; exact .inr ⟨rfl, h⟩
    · rw [if_neg e] at h; exact .inl h
  · unfold arc at h
    rw [List.set_eq_of_length_le (by omega)] at h
    exact .inl h
theorem outs_arc_of (G : List (List Nat)) (t u x y : Nat) (h : y ∈ outs G x) : y ∈ outs (arc G t u) x := by
  by_cases ht : t < G.length
  · rw [outs_arcT G t u x ht]
    by_cases e : x = t
    · subst e; simp [h]
    · rw [if_neg e]; exact h
  · unfold arc
    rw [List.set_eq_of_length_le (by omega)]
    exact h
theorem pick_mem (i : Nat) : ∀ (f : List Nat) (G : List (List Nat)) (x y : Nat), y ∈ outs (arcsTo G f i) x → y ∈ outs G x ∨ (x ∈ f ∧ y = i)
  | [], G, x, y, h => .inl h
  | t :: f, G, x, y, h => by
    rcases pick_mem i f (arc G t i) x y h with h1 | ⟨h1, h2⟩
    · rcases outs_arc_mem G t i x y h1 with h3 | ⟨h3, h4⟩
      · exact .inl h3
      · exact .inr ⟨by simp [h3], h4⟩
    · exact .inr ⟨by simp [h1], h2⟩
theorem pick_of (i : Nat) : ∀ (f : List Nat) (G : List (List Nat)) (x y : Nat), y ∈ outs G x → y ∈ outs (arcsTo G f i) x
  | [], G, x, y, h => h
  | t :: f, G, x, y, h => pick_of i f (arc G t i) x y (outs_arc_of G t i x y h)
theorem pick_new (i : Nat) : ∀ (f : List Nat) (G : List (List Nat)) (x : Nat), x ∈ f → x < G.length → i ∈ outs (arcsTo G f i) x
  | [], G, x, h, _ => by simp at h
  | t :: f, G, x, h, hx => by
    by_cases e : x = t
    · subst e
      refine pick_of i f _ _ _ ?_
      rw [outs_arcT G x i x hx]; simp
    · exact pick_new i f (arc G t i) x (by simpa [e] using h) (by rw [arc_len]; exact hx)
theorem pick_len (G : List (List Nat)) (A : Alt) : (pickG G A).length = G.length := arcsTo_len _ _ _
/-- A path in the graph with the new arcs. -/
theorem pick_path {G : List (List Nat)} {A : Alt} {a b : Nat} (h : Rch (pickG G A) a b) : Rch G a b ∨ ((∃ t ∈ A.f, Rch G a t) ∧ Rch G A.i b) := by
  unfold Rch at h
  induction h with
  | refl _ => exact .inl (Rch.refl _)
  | @step x y z _ hm _ ih =>
    rcases pick_mem A.i A.f G x y hm with h1 | ⟨h1, h2⟩
    · rcases ih with h3 | ⟨⟨t, ht, h4⟩, h5⟩
      · exact .inl (Rch.cons h1 h3)
      · exact .inr ⟨⟨t, ht, Rch.cons h1 h4⟩, h5⟩
    · subst h2
      refine .inr ⟨⟨x, h1, Rch.refl x⟩, ?_⟩
      rcases ih with h3 | ⟨_, h5⟩
      · exact h3
      · exact h5
theorem acy_pick {G : List (List Nat)} {A : Alt} (h : Acy G) (ho : OpenW G A) : Acy (pickG G A) := by
  intro x y hm hp
  rcases pick_mem A.i A.f G x y hm with h1 | ⟨h1, h2⟩
  · rcases pick_path hp with h3 | ⟨⟨t, ht, h4⟩, h5⟩
    · exact h x y h1 h3
    · exact ho t ht (RI.trans h5 (Rch.cons h1 h4))
  · subst h2
    rcases pick_path hp with h3 | ⟨⟨t, ht, h4⟩, h5⟩
    · exact ho x h1 h3
    · exact ho t ht h4
theorem outs_set (G : List (List Nat)) (t : Nat) (r : List Nat) (x : Nat) (ht : t < G.length) : outs (G.set t r) x = if x = t then r else outs G x := by
  unfold outs
  simp only [List.getD_eq_getElem?_getD]
  by_cases e : x = t
  · subst e; simp [ht]
  · rw [List.getElem?_set_ne (Ne.symm e)]; simp [e]
theorem graph_ext {G H : List (List Nat)} (hl : G.length = H.length) (h : ∀ x, x < G.length → outs G x = outs H x) : G = H := by
  refine List.ext_getElem hl (fun i h1 h2 => ?_)
  have := h i h1
  unfold outs at this
  simpa [List.getD_eq_getElem?_getD, h1, h2] using this
theorem unpick_len (f : List Nat) : ∀ G : List (List Nat), (f.foldl dropAt G).length = G.length := by
  induction f with
  | nil => intro G; rfl
  | cons t f ih => intro G; rw [List.foldl_cons, ih]; simp [dropAt]
theorem outs_unpick : ∀ (f : List Nat) (G : List (List Nat)), f.Nodup → (∀ t ∈ f, t < G.length) → ∀ x, outs (f.foldl dropAt G) x = if x ∈ f then (outs G x).dropLast else outs G x
  | [], G, _, _, x => by simp
  | t :: f, G, hn, hl, x => by
    have hn' := List.nodup_cons.mp hn
    have ht := hl t (by simp)
    rw [List.foldl_cons, outs_unpick f (dropAt G t) hn'.2 (fun u hu => by simpa [dropAt] using hl u (by simp [hu])) x]
    unfold dropAt
    rw [outs_set G t _ x ht]
    by_cases e : x = t
    · subst e; simp [hn'.1]
    · simp [e]
theorem outs_pick : ∀ (f : List Nat) (i : Nat) (G : List (List Nat)), f.Nodup → (∀ t ∈ f, t < G.length) → ∀ x, outs (arcsTo G f i) x = if x ∈ f then outs G x ++ [i] else outs G x
  | [], i, G, _, _, x => by simp [arcsTo]
  | t :: f, i, G, hn, hl, x => by
    have hn' := List.nodup_cons.mp hn
    have ht := hl t (by simp)
    show outs (arcsTo (arc G t i) f i) x = _
    rw [outs_pick f i (arc G t i) hn'.2 (fun u hu => by rw [arc_len]; exact hl u (by simp [hu])) x, outs_arcT G t i x ht]
    by_cases e : x = t
    · subst e; simp [hn'.1]
    · simp [e]
theorem unpick_pick (G : List (List Nat)) (A : Alt) (hn : A.f.Nodup) (hl : ∀ t ∈ A.f, t < G.length) : unpickG (pickG G A) A = G := by
  have e : (unpickG (pickG G A) A).length = G.length := by rw [unpickG, unpick_len, pick_len]
  refine graph_ext e (fun x hx => ?_)
  unfold unpickG
  rw [outs_unpick A.f (pickG G A) hn (fun t ht => by rw [pick_len]; exact hl t ht)]
  unfold pickG
  rw [outs_pick A.f A.i G hn hl]
  by_cases h : x ∈ A.f
  · simp [h]
  · simp [h]
/-- The walk of open: the nodes seen. -/
structure DF (G : List (List Nat)) (z : Int) (se : List Int) (S : List Nat) (i0 : Nat) : Prop where
  len : se.length = G.length
  i0 : se[i0]? = some z
  st : ∀ v ∈ S, se[v]? = some z
  cl : ∀ v, se[v]? = some z → v ∈ S ∨ ∀ y ∈ outs G v, se[y]? = some z
structure DFI (G : List (List Nat)) (z : Int) (se : List Int) (S : List Nat) (i0 v j : Nat) : Prop where
  len : se.length = G.length
  i0 : se[i0]? = some z
  st : ∀ u ∈ S, se[u]? = some z
  sv : se[v]? = some z
  cl : ∀ u, se[u]? = some z → u ∈ S ∨ u = v ∨ ∀ y ∈ outs G u, se[y]? = some z
  pr : ∀ y ∈ (outs G v).take j, se[y]? = some z
def un (se : List Int) (z : Int) : Nat := se.countP (fun x => x != z)
theorem un_put {se : List Int} {z y : Int} {x : Nat} (h : se[x]? = some y) (hy : y ≠ z) : un (se.set x z) z + 1 = un se z := by
  have hl := (List.getElem?_eq_some_iff.mp h).1
  have h2 := (List.getElem?_eq_some_iff.mp h).2
  unfold un
  rw [List.countP_set hl, h2]
  have h1 : (y != z) = true := by simp [hy]
  have h3 : 0 < se.countP (fun x => x != z) := List.countP_pos_iff.mpr ⟨y, List.mem_of_getElem? h, h1⟩
  simp [h1]
  omega
section
variable {G : List (List Nat)} {z : Int} {se : List Int} {S : List Nat} {i0 v j x : Nat}
theorem DF.start {se : List Int} (hl : se.length = G.length) (hi : i0 < G.length) (hz : ∀ y ∈ se, y ≠ z) : DF G z (se.set i0 z) [i0] i0 := by
  have own : ∀ u : Nat, (se.set i0 z)[u]? = some z → u = i0 := by
    intro u hu
    by_cases e : u = i0
    · exact e
    · rw [List.getElem?_set_ne (Ne.symm e)] at hu
      exact absurd rfl (hz z (List.mem_of_getElem? hu))
  refine ⟨by simp [hl], by rw [List.getElem?_set_self (by omega)], fun u hu => ?_, fun u hu => .inl (by simp [own u hu])⟩
  simp at hu; subst hu
  rw [List.getElem?_set_self (by omega)]
theorem DF.pop {S : List Nat} (h : DF G z se (S ++ [v]) i0) : DFI G z se S i0 v 0 := by
  refine ⟨h.len, h.i0, fun u hu => h.st u (by simp [hu]), h.st v (by simp), fun u hu => ?_, by simp⟩
  rcases h.cl u hu with h1 | h1
  · simp at h1
    exact h1.imp id .inl
  · exact .inr (.inr h1)
theorem DFI.old (h : DFI G z se S i0 v j) (hx : (outs G v)[j]? = some x) (hs : se[x]? = some z) : DFI G z se S i0 v (j + 1) := by
  refine ⟨h.len, h.i0, h.st, h.sv, h.cl, fun y hy => ?_⟩
  rcases take_succ_mem hx hy with h1 | h1
  · exact h.pr y h1
  · subst h1; exact hs
theorem DFI.new (h : DFI G z se S i0 v j) (hx : (outs G v)[j]? = some x) (hxN : x < G.length) : DFI G z (se.set x z) (S ++ [x]) i0 v (j + 1) := by
  have same : (se.set x z)[x]? = some z := by rw [List.getElem?_set_self (by rw [h.len]; exact hxN)]
  have up : ∀ u : Nat, se[u]? = some z → (se.set x z)[u]? = some z := by
    intro u hu
    by_cases e : u = x
    · subst e; exact same
    · rw [List.getElem?_set_ne (Ne.symm e)]; exact hu
  refine ⟨by simp [h.len], up _ h.i0, fun u hu => ?_, up _ h.sv, fun u hu => ?_, fun y hy => ?_⟩
  · simp at hu
    rcases hu with hu | hu
    · exact up u (h.st u hu)
    · subst hu; exact same
  · by_cases e : u = x
    · exact .inl (by simp [e])
    · rw [List.getElem?_set_ne (Ne.symm e)] at hu
      rcases h.cl u hu with h1 | h1 | h1
      · exact .inl (by simp [h1])
      · exact .inr (.inl h1)
      · exact .inr (.inr (fun y hy => up y (h1 y hy)))
  · rcases take_succ_mem hx hy with h1 | h1
    · exact up y (h.pr y h1)
    · subst h1; exact same
theorem DFI.done (h : DFI G z se S i0 v j) (hj : (outs G v).length ≤ j) : DF G z se S i0 := by
  refine ⟨h.len, h.i0, h.st, fun u hu => ?_⟩
  rcases h.cl u hu with h1 | h1 | h1
  · exact .inl h1
  · subst h1
    exact .inr (fun y hy => h.pr y (by rw [List.take_of_length_le hj]; exact hy))
  · exact .inr h1
theorem DF.reach (h : DF G z se [] i0) {t : Nat} (hp : Rch G i0 t) : se[t]? = some z := by
  have key : ∀ a b, Rch G a b → se[a]? = some z → se[b]? = some z := by
    intro a b hab
    unfold Rch at hab
    induction hab with
    | refl _ => exact id
    | step _ hm _ ih =>
      intro ha
      refine ih ?_
      rcases h.cl _ ha with h1 | h1
      · simp at h1
      · exact h1 _ hm
  exact key i0 t hp h.i0
end
/-- What remains of the walks below u open choices. -/
def Wk : Nat → Nat
  | 0 => 1
  | u + 1 => 2 * (u + 1) + 2 * Wk u
theorem Wk_pos : ∀ u, 1 ≤ Wk u
  | 0 => by simp [Wk]
  | u + 1 => by unfold Wk; omega
theorem Wk_two : ∀ u, 2 * u ≤ Wk u
  | 0 => by simp
  | u + 1 => by unfold Wk; omega
theorem Wk_step (u : Nat) : 2 * (u + 1) + Wk u ≤ Wk (u + 1) := by show _ ≤ 2 * (u + 1) + 2 * Wk u; omega
theorem Wk_mono : ∀ (u k : Nat), Wk u ≤ Wk (u + k)
  | u, 0 => Nat.le_refl _
  | u, k + 1 => by
    have h1 := Wk_mono u k
    have h2 := Wk_step (u + k)
    show Wk u ≤ Wk (u + k + 1)
    omega
theorem Wk_le {u v : Nat} (h : u ≤ v) : Wk u ≤ Wk v := by
  have := Wk_mono u (v - u)
  rw [show u + (v - u) = v by omega] at this
  exact this
theorem Wk_60 : Wk 60 < 9223372036854775807 := by decide
structure Stp where
  c : Nat
  w : Nat
  g : Bool
def psum (n : Nat) (tr : List Stp) : Nat := ((List.range tr.length).map (fun i => if (tr[i]?).map Stp.g = some true then Wk (n - (i + 1)) else 0)).sum
theorem psum_snoc (n : Nat) (tr : List Stp) (s : Stp) : psum n (tr ++ [s]) = psum n tr + (if s.g = true then Wk (n - (tr.length + 1)) else 0) := by
  unfold psum
  rw [List.length_append, List.length_singleton, List.range_succ, List.map_append, List.sum_append]
  congr 1
  · refine congrArg List.sum (List.map_congr_left (fun i hi => ?_))
    have := List.mem_range.mp hi
    rw [List.getElem?_append_left this]
  · simp
def altOf (ws : List (Alt × Alt)) (c w : Nat) : Alt := match ws[c]? with | some p => if w = 0 then p.1 else p.2 | none => ⟨[], 0⟩
def built (ws : List (Alt × Alt)) (B : List (List Nat)) (tr : List Stp) : List (List Nat) := tr.foldl (fun G s => pickG G (altOf ws s.c s.w)) B
theorem built_snoc (ws : List (Alt × Alt)) (B : List (List Nat)) (tr : List Stp) (s : Stp) : built ws B (tr ++ [s]) = pickG (built ws B tr) (altOf ws s.c s.w) := by
  simp [built]
theorem built_len (ws : List (Alt × Alt)) : ∀ (tr : List Stp) (B : List (List Nat)), (built ws B tr).length = B.length
  | [], B => rfl
  | s :: tr, B => by
    show (built ws (pickG B (altOf ws s.c s.w)) tr).length = _
    rw [built_len ws tr, pick_len]
/-- The ways are sound: no node twice, none out of range. -/
def WsOk (ws : List (Alt × Alt)) (n : Nat) : Prop := ∀ c w, (altOf ws c w).f.Nodup ∧ (∀ t ∈ (altOf ws c w).f, t < n) ∧ (c < ws.length → (altOf ws c w).i < n)
structure TS (ws : List (Alt × Alt)) (B G : List (List Nat)) (ch : List Int) (tr : List Stp) : Prop where
  len : ch.length = ws.length
  gq : G = built ws B tr
  lt : ∀ s ∈ tr, s.c < ws.length ∧ s.w ≤ 1
  c1 : ∀ s ∈ tr, ch[s.c]? = some (s.w : Int)
  c0 : ∀ c, c < ws.length → (∀ s ∈ tr, s.c ≠ c) → ch[c]? = some (-1)
  cn : ch.countP (fun x => x == -1) + tr.length = ws.length
  nd : (tr.map Stp.c).Nodup
  op : ∀ pre s post, tr = pre ++ s :: post → OpenW (built ws B pre) (altOf ws s.c s.w) ∧ (s.g = true → OpenW (built ws B pre) (altOf ws s.c (1 - s.w)))
section
variable {ws : List (Alt × Alt)} {B G : List (List Nat)} {ch : List Int} {tr : List Stp}
theorem TS.start {ws : List (Alt × Alt)} {B : List (List Nat)} : TS ws B B (List.replicate ws.length (-1)) [] := by
  refine ⟨by simp, rfl, by simp, by simp, fun c hc _ => by simp [hc], by simp [List.countP_replicate], by simp, fun pre s post h => ?_⟩
  simp at h
theorem TS.glen (h : TS ws B G ch tr) : G.length = B.length := by rw [h.gq, built_len]
theorem TS.val (h : TS ws B G ch tr) {c : Nat} (hc : c < ws.length) : (ch[c]? = some (-1) ∧ ∀ s ∈ tr, s.c ≠ c) ∨ ∃ s ∈ tr, s.c = c ∧ ch[c]? = some (s.w : Int) := by
  by_cases e : ∀ s ∈ tr, s.c ≠ c
  · exact .inl ⟨h.c0 c hc e, e⟩
  · simp only [ne_eq, Classical.not_forall, Classical.not_not] at e
    obtain ⟨s, hs, he⟩ := e
    exact .inr ⟨s, hs, he, he ▸ h.c1 s hs⟩
theorem TS.free (h : TS ws B G ch tr) {c : Nat} (hc : ch[c]? = some (-1)) : c < ws.length ∧ ∀ s ∈ tr, s.c ≠ c := by
  refine ⟨by have := (List.getElem?_eq_some_iff.mp hc).1; rw [h.len] at this; exact this, fun s hs e => ?_⟩
  have := h.c1 s hs
  rw [e, hc] at this
  injection this with this
  omega
theorem TS.push (h : TS ws B G ch tr) {c w : Nat} {g : Bool} (hc : ch[c]? = some (-1)) (hw : w ≤ 1) (ho : OpenW G (altOf ws c w)) (hg : g = true → OpenW G (altOf ws c (1 - w))) :
    TS ws B (pickG G (altOf ws c w)) (ch.set c (w : Int)) (tr ++ [⟨c, w, g⟩]) := by
  obtain ⟨hcl, hf⟩ := h.free hc
  have hlc : c < ch.length := by rw [h.len]; exact hcl
  refine ⟨by simp [h.len], by rw [built_snoc, ← h.gq], ?_, ?_, ?_, ?_, ?_, ?_⟩
  · intro s hs
    simp only [List.mem_append, List.mem_singleton] at hs
    rcases hs with hs | rfl
    · exact h.lt s hs
    · exact ⟨hcl, hw⟩
  · intro s hs
    simp only [List.mem_append, List.mem_singleton] at hs
    rcases hs with hs | rfl
    · rw [List.getElem?_set_ne (Ne.symm (hf s hs))]; exact h.c1 s hs
    · rw [List.getElem?_set_self hlc]
  · intro d hd hn
    have e : d ≠ c := fun e => hn ⟨c, w, g⟩ (by simp) e.symm
    rw [List.getElem?_set_ne (Ne.symm e)]
    exact h.c0 d hd (fun s hs => hn s (by simp [hs]))
  · have h1 := h.cn
    have h2 := (List.getElem?_eq_some_iff.mp hc).2
    have h3 : 0 < ch.countP (fun x => x == -1) := List.countP_pos_iff.mpr ⟨-1, List.mem_of_getElem? hc, by simp⟩
    rw [List.countP_set hlc, h2, List.length_append, List.length_singleton]
    have h4 : (((w : Int) == -1) = true) = False := by simp
    simp only [beq_self_eq_true, if_true, h4, if_false]
    omega
  · rw [List.map_append, List.nodup_append]
    refine ⟨h.nd, by simp, fun a ha b hb e => ?_⟩
    obtain ⟨s, hs, rfl⟩ := List.mem_map.mp ha
    simp at hb
    exact hf s hs (e.trans hb)
  · intro pre s post he
    rcases List.eq_nil_or_concat post with rfl | ⟨post', y, rfl⟩
    · have := List.append_inj' he (by simp)
      obtain ⟨e1, e2⟩ := this
      simp at e2
      subst e1 e2
      rw [← h.gq]
      exact ⟨ho, hg⟩
    · rw [List.concat_eq_append, ← List.cons_append, ← List.append_assoc] at he
      have := List.append_inj' he (by simp)
      exact h.op pre s post' this.1
theorem TS.pop {s : Stp} (h : TS ws B G ch (tr ++ [s])) (hw : WsOk ws B.length) : TS ws B (unpickG G (altOf ws s.c s.w)) (ch.set s.c (-1)) tr ∧ G = pickG (built ws B tr) (altOf ws s.c s.w) := by
  have nd := h.nd
  rw [List.map_append, List.nodup_append] at nd
  have hs := h.lt s (by simp)
  have hlc : s.c < ch.length := by rw [h.len]; exact hs.1
  have ne : ∀ t ∈ tr, t.c ≠ s.c := fun t ht e => nd.2.2 t.c (List.mem_map_of_mem ht) s.c (by simp) e
  have gq := h.gq
  rw [built_snoc] at gq
  have W := hw s.c s.w
  refine ⟨⟨by simp [h.len], ?_, fun t ht => h.lt t (by simp [ht]), ?_, ?_, ?_, nd.1, ?_⟩, gq⟩
  · rw [gq]; exact unpick_pick _ _ W.1 (fun t ht => by rw [built_len]; exact W.2.1 t ht)
  · intro t ht
    rw [List.getElem?_set_ne (Ne.symm (ne t ht))]; exact h.c1 t (by simp [ht])
  · intro d hd hn
    by_cases e : d = s.c
    · subst e; rw [List.getElem?_set_self hlc]
    · rw [List.getElem?_set_ne (Ne.symm e)]
      refine h.c0 d hd (fun t ht => ?_)
      simp only [List.mem_append, List.mem_singleton] at ht
      rcases ht with ht | rfl
      · exact hn t ht
      · exact Ne.symm e
  · have h1 := h.cn
    have h2 := h.c1 s (by simp)
    have h3 := (List.getElem?_eq_some_iff.mp h2).2
    rw [List.countP_set hlc, h3]
    have h4 : (((s.w : Int) == -1) = true) = False := by simp
    simp only [h4, if_false, beq_self_eq_true, if_true]
    simp at h1
    omega
  · intro pre t post he
    exact h.op pre t (post ++ [s]) (by rw [he]; simp)
theorem TS.acy (h : TS ws B G ch tr) (hB : Acy B) : Acy G := by
  have key : ∀ (tr : List Stp), (∀ pre s post, tr = pre ++ s :: post → OpenW (built ws B pre) (altOf ws s.c s.w)) → Acy (built ws B tr) := by
    intro tr
    generalize hn : tr.length = n
    induction n generalizing tr with
    | zero => intro _; rw [List.length_eq_zero_iff.mp hn]; exact hB
    | succ n ih =>
      intro hop
      rcases List.eq_nil_or_concat tr with rfl | ⟨tr', s, rfl⟩
      · simp at hn
      · rw [List.concat_eq_append] at *
        rw [built_snoc]
        refine acy_pick (ih tr' (by simpa using hn) (fun pre t post he => hop pre t (post ++ [s]) (by rw [he]; simp))) (hop tr' s [] (by simp))
  rw [h.gq]
  exact key tr (fun pre s post he => (h.op pre s post he).1)
theorem TS.short (h : TS ws B G ch tr) : tr.length ≤ ws.length := by have := h.cn; omega
end
end Go.Proofs.YbulkctquGreatFmt

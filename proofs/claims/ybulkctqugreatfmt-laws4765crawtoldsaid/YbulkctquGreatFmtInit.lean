/-
  precedeInitial.
-/
import Derived.Test.YbulkctquGreatFmtRws
import Derived.BigQuiet
namespace Go.Proofs.YbulkctquGreatFmt
open Go.ChangeShapes Go.WideShapes Go.ChangeAt Go.RowKit Go.Ord
set_option linter.unusedVariables false

theorem mark60 (W : World) (b2 b6 r n c t : Nat) (x m : Int) (h1 : W.cell? ⟨b2, 0, none⟩ = some (.slice (some ⟨r, 0, none⟩) n c)) (h2 : W.cell? ⟨b6, 0, none⟩ = some (.int .i64 m)) (h3 : W.cell? ⟨r, t, none⟩ = some (.int .i64 x)) (ht : t < n) :
    Calls Ybaz.prog 60 #[.int .i64 t, .pointer (some ⟨b2, 0, none⟩), .pointer (some ⟨b6, 0, none⟩)] W fun e w' => e = .returned (.bool (x == m)) ∧ ∃ q, w' = W.drewN q := by
  go_enter Ybaz.func60, Ybaz.ntmps60
  go_wp2_with (first | go_quiet (fail))
  go_ret
  exact ⟨rfl, _, rfl⟩
theorem mark61 (W : World) (b2 b6 r n c t : Nat) (x m : Int) (h1 : W.cell? ⟨b2, 0, none⟩ = some (.slice (some ⟨r, 0, none⟩) n c)) (h2 : W.cell? ⟨b6, 0, none⟩ = some (.int .i64 m)) (h3 : W.cell? ⟨r, t, none⟩ = some (.int .i64 x)) (ht : t < n) :
    Calls Ybaz.prog 61 #[.int .i64 t, .pointer (some ⟨b2, 0, none⟩), .pointer (some ⟨b6, 0, none⟩)] W fun e w' => e = .returned (.bool (x == m)) ∧ ∃ q, w' = W.drewN q := by
  go_enter Ybaz.func61, Ybaz.ntmps61
  go_wp2_with (first | go_quiet (fail))
  go_ret
  exact ⟨rfl, _, rfl⟩
theorem mark63 (W : World) (b2 b6 r n c t : Nat) (x m : Int) (h1 : W.cell? ⟨b2, 0, none⟩ = some (.slice (some ⟨r, 0, none⟩) n c)) (h2 : W.cell? ⟨b6, 0, none⟩ = some (.int .i64 m)) (h3 : W.cell? ⟨r, t, none⟩ = some (.int .i64 x)) (ht : t < n) :
    Calls Ybaz.prog 63 #[.int .i64 t, .pointer (some ⟨b2, 0, none⟩), .pointer (some ⟨b6, 0, none⟩)] W fun e w' => e = .returned (.bool (x == m)) ∧ ∃ q, w' = W.drewN q := by
  go_enter Ybaz.func63, Ybaz.ntmps63
  go_wp2_with (first | go_quiet (fail))
  go_ret
  exact ⟨rfl, _, rfl⟩
theorem mark64 (W : World) (b2 b6 r n c t : Nat) (x m : Int) (h1 : W.cell? ⟨b2, 0, none⟩ = some (.slice (some ⟨r, 0, none⟩) n c)) (h2 : W.cell? ⟨b6, 0, none⟩ = some (.int .i64 m)) (h3 : W.cell? ⟨r, t, none⟩ = some (.int .i64 x)) (ht : t < n) :
    Calls Ybaz.prog 64 #[.int .i64 t, .pointer (some ⟨b2, 0, none⟩), .pointer (some ⟨b6, 0, none⟩)] W fun e w' => e = .returned (.bool (x == m)) ∧ ∃ q, w' = W.drewN q := by
  go_enter Ybaz.func64, Ybaz.ntmps64
  go_wp2_with (first | go_quiet (fail))
  go_ret
  exact ⟨rfl, _, rfl⟩

/-- What precedeInitial lays down. -/
def initG (G : List (List Nat)) (os : List Ob) : List (List Nat) := os.foldl (fun G o => othersG G o.ini o.wr) G
def initJ (J : List Bool) (os : List Ob) : List Bool := os.foldl (fun J o => othersJ J o.ini o.wr) J

/-- Marks: what a row of them says of the lists. -/
structure Marks (n m : Nat) (M : List Nat) (xs : List Nat) : Prop where
  len : M.length = n
  le : ∀ (t v : Nat), M[t]? = some v → v ≤ m ∧ (v = m ↔ t ∈ xs)
theorem Marks.put {n m : Nat} {M xs : List Nat} (h : Marks n m M xs) (t : Nat) (ht : t < n) : Marks n m (M.set t m) (xs ++ [t]) := by
  refine ⟨by simp [h.len], ?_⟩
  intro j v hv
  by_cases e : t = j
  · subst e
    rw [List.getElem?_set_self (by rw [h.len]; exact ht)] at hv
    injection hv with hv
    subst hv
    simp
  · rw [List.getElem?_set_ne e] at hv
    have := h.le j v hv
    refine ⟨this.1, ?_⟩
    rw [this.2]
    simp [Ne.symm e]
theorem Marks.next {n m : Nat} {M xs : List Nat} (h : Marks n m M xs) : Marks n (m + 1) M [] := by
  refine ⟨h.len, ?_⟩
  intro j v hv
  have := h.le j v hv
  refine ⟨by omega, ?_⟩
  simp; omega

theorem flat3 {α β : Type} (f : α → List β) (n : Nat) (hf : ∀ a, (f a).length = n) : ∀ (l : List α) (x j : Nat) (a : α), l[x]? = some a → j < n → (l.flatMap f)[x * n + j]? = (f a)[j]?
  | [], _, _, _, h, _ => by simp at h
  | b :: l, 0, j, a, h, hj => by
    simp at h; subst h
    rw [List.flatMap_cons, List.getElem?_append_left (by rw [hf]; omega)]
    simp
  | b :: l, x + 1, j, a, h, hj => by
    simp at h
    rw [List.flatMap_cons, List.getElem?_append_right (by rw [hf, Nat.succ_mul]; omega), hf]
    have e : (x + 1) * n + j - n = x * n + j := by rw [Nat.succ_mul]; omega
    rw [e]
    exact flat3 f n hf l x j a h hj

theorem Objs.at {w : World} {g : OG} {os : List Ob} (h : Objs w g os) {x : Nat} {o : Ob} (hx : os[x]? = some o) :
    ∃ (bO : Nat) (s0 s1 s2 : SV) (f0 f1 : List Nat), g.a = some ⟨bO, 0, none⟩ ∧ w.cell? ⟨bO, x * 3, none⟩ = some (.slice s0.a s0.n s0.c) ∧ w.cell? ⟨bO, x * 3 + 1, none⟩ = some (.slice s1.a s1.n s1.c) ∧ w.cell? ⟨bO, x * 3 + 2, none⟩ = some (.slice s2.a s2.n s2.c) ∧
      s0.n = o.wr.length ∧ Sl w 3 1 s0.a s0.n s0.c f0 (o.wr.map nI) ∧ (∀ k ∈ f0, k ∈ g.foot) ∧ s1.n = o.ini.length ∧ Sl w 3 1 s1.a s1.n s1.c f1 (o.ini.map nI) ∧ (∀ k ∈ f1, k ∈ g.foot) := by
  have hl := (List.getElem?_eq_some_iff.mp hx).1
  have q := fun j (hj : j < 3) => flat3 Ob.rows 3 (fun _ => rfl) os x j o hx hj
  obtain ⟨s0, f0, a0, _, a1, a2, a3⟩ := h.rows.at (i := x * 3 + 0) (r := o.wr) (by rw [q 0 (by omega)]; rfl)
  obtain ⟨s1, f1, b0, _, b1, b2, b3⟩ := h.rows.at (i := x * 3 + 1) (r := o.ini) (by rw [q 1 (by omega)]; rfl)
  obtain ⟨s2, f2, c0, _, c1, c2, c3⟩ := h.rows.at (i := x * 3 + 2) (r := o.rk) (by rw [q 2 (by omega)]; rfl)
  obtain ⟨bO, e1, e2, _, e3, _⟩ := h.top.has (by omega)
  have inF : ∀ k ∈ g.fI.flatten, k ∈ g.foot := fun k hk => by simp [OG.foot, hk]
  refine ⟨bO, s0, s1, s2, f0, f1, e1, ?_, ?_, ?_, a1, a2, fun k hk => inF k (a3 k hk), b1, b2, fun k hk => inF k (b3 k hk)⟩
  · rw [e3 (x * 3) (by omega)]; simp at a0; simp [a0, SV.val]
  · rw [e3 (x * 3 + 1) (by omega)]; simp [b0, SV.val]
  · rw [e3 (x * 3 + 2) (by omega)]; simp [c0, SV.val]
theorem Objs.lt {w : World} {g : OG} {os : List Ob} (h : Objs w g os) : ∀ k ∈ g.foot, k < w.heap.size := by
  intro k hk
  simp only [OG.foot, List.mem_append] at hk
  rcases hk with hk | hk
  · exact h.top.lt k hk
  · exact h.rows.lt k hk
theorem Objs.keep {w w' : World} {g : OG} {os : List Ob} (h : Objs w g os) {S : List Nat} (hu : Upd S w w') (hn : ∀ k ∈ g.foot, k ∉ S) : Objs w' g os :=
  ⟨h.top.keep hu (fun k hk => hn k (by simp [OG.foot, hk])), h.rows.keep hu (fun k hk => hn k (by simp only [OG.foot, List.mem_append]; exact .inr hk)), h.nd⟩
end Go.Proofs.YbulkctquGreatFmt

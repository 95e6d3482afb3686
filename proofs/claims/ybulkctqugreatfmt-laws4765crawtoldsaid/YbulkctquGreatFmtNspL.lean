/-
  Few objects, few sources.
-/
import Derived.Test.YbulkctquGreatFmtNspF
namespace Go.Proofs.YbulkctquGreatFmt
open Go.ChangeShapes Go.WideShapes Go.ChangeAt Go.RowKit Go.Ord
set_option linter.unusedVariables false
theorem zero4 (w : World) : (zeroValue 4).run Ybaz.prog w = .ok (.bool false) w := by
  have h : (Ybaz.prog.info? 4).bind (·.zero) = some (.bool false) := by kernel_rfl
  cases hq : Ybaz.prog.info? 4 with
  | none => rw [hq] at h; cases h
  | some i =>
    rw [hq] at h
    simp at h
    simp [zeroValue, typeInfo, hq, h]
/-- An append behind a call that only draws. -/
theorem append_fn (W : World) (t e : TypeId) (sz bytes : Nat) (H : SliceOf Ybaz.prog t e sz bytes) (hb : bytes ≤ 100) (ao : Option Addr) (n cap : Nat) (fp : List Nat) (xs : List Value) (hs : Sl W e sz ao n cap fp xs) (us : Nat → List Value) (hl : ∀ k, (us k).length = sz) (h1 : ∀ k, ∀ u ∈ us k, u.oneCell' = true) (hn : n < 1000000000000) :
    ∃ (gR cR : Nat → Nat → Nat) (wR : Nat → Nat → World), ∀ rk m, (Builtin.append_ #[t, t] t #[.slice ao n cap, .slice (some ⟨W.heap.size, 0, none⟩) 1 1]).run Ybaz.prog ((W.drewN (1 + m)).alloc (.cells (us rk).toArray e)) = .ok (.slice (some ⟨gR rk m, 0, none⟩) (n + 1) (cR rk m)) (wR rk m) ∧ Sl (wR rk m) e sz (some ⟨gR rk m, 0, none⟩) (n + 1) (cR rk m) [gR rk m] (xs ++ us rk) ∧ Upd fp W (wR rk m) ∧ (gR rk m ∈ fp ∨ W.heap.size ≤ gR rk m) := by
  have key : ∀ p : Nat × Nat, ∃ r : Nat × Nat × World, (Builtin.append_ #[t, t] t #[.slice ao n cap, .slice (some ⟨W.heap.size, 0, none⟩) 1 1]).run Ybaz.prog ((W.drewN (1 + p.2)).alloc (.cells (us p.1).toArray e)) = .ok (.slice (some ⟨r.1, 0, none⟩) (n + 1) r.2.1) r.2.2 ∧ Sl r.2.2 e sz (some ⟨r.1, 0, none⟩) (n + 1) r.2.1 [r.1] (xs ++ us p.1) ∧ Upd fp W r.2.2 ∧ (r.1 ∈ fp ∨ W.heap.size ≤ r.1) := by
    intro p
    obtain ⟨g, c, w', a1, a2, a3, a4⟩ := run_appended W ((W.drewN (1 + p.2)).alloc (.cells (us p.1).toArray e)) t t e sz bytes H hb ao n cap fp xs hs (us p.1) (hl _) (h1 _) hn (Upd.drewN [] (W.alloc (.cells (us p.1).toArray e)) (1 + p.2))
    exact ⟨(g, c, w'), a1, a2, a3, a4⟩
  obtain ⟨f, hf⟩ := Classical.axiomOfChoice key
  exact ⟨fun rk m => (f (rk, m)).1, fun rk m => (f (rk, m)).2.1, fun rk m => (f (rk, m)).2.2, fun rk m => hf (rk, m)⟩
section
variable {hs : List (List Tx)} {F : Nat → Option Wr} {A : List Rk} {zs : List Nat} {NM : Nat × Nat → Option Nat} {v e : Nat} {om sm : Nat → Option Nat} {vars vers : List Nat} {os : List Ob} {ss : List Sr} {G : List (List Nat)} {c : Nat}
theorem nodup_of_inj {l : List Nat} {f : Nat → Option Nat} (h : ∀ y x, f y = some x ↔ l[x]? = some y) : l.Nodup := by
  rw [List.nodup_iff_pairwise_ne, List.pairwise_iff_getElem]
  intro i j hi hj hlt he
  have h1 := (h l[i] i).mpr (List.getElem?_eq_getElem hi)
  have h2 := (h l[j] j).mpr (List.getElem?_eq_getElem hj)
  rw [he] at h1
  rw [h1] at h2
  injection h2 with h2
  omega
theorem EI.fewO (h : EI hs F A zs NM v e om sm vars vers os ss G c) : os.length ≤ 900 := by
  rw [← h.lenO]
  exact nodup_len 900 vars (nodup_of_inj h.omI) h.numO
theorem EI.fewS (h : EI hs F A zs NM v e om sm vars vers os ss G c) (hv : ∀ s k e x, At hs s k e x → x.v < 900 ∧ x.x < 900) : ss.length ≤ 900 := by
  rw [← h.lenS]
  refine nodup_len 900 vers (nodup_of_inj h.smI) (fun r hr => ?_)
  obtain ⟨k, hk⟩ := List.getElem?_of_mem hr
  have hl := (List.getElem?_eq_some_iff.mp hk).1
  obtain ⟨s, hs'⟩ := has_at ss (k := k) (by rw [← h.lenS]; exact hl)
  obtain ⟨⟨q, x, a1, a2, a3, a4, a5, _⟩, _⟩ := h.srI k s r hs' hk
  have := (hv _ _ _ _ a3).1
  omega
theorem EI.objAt (h : EI hs F A zs NM v e om sm vars vers os ss G c) {y n : Nat} (hn : om y = some n) : n < os.length := by
  rw [← h.lenO]; exact (List.getElem?_eq_some_iff.mp ((h.omI y n).mp hn)).1
theorem EI.srcAt (h : EI hs F A zs NM v e om sm vars vers os ss G c) {y n : Nat} (hn : sm y = some n) : n < ss.length := by
  rw [← h.lenS]; exact (List.getElem?_eq_some_iff.mp ((h.smI y n).mp hn)).1
end
end Go.Proofs.YbulkctquGreatFmt

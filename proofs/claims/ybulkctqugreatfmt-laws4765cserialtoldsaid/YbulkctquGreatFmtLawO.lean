/-
  The law's history: how it begins, and one transaction more.
-/
import Derived.Test.YbulkctquGreatFmtLawN
namespace Go.Proofs.YbulkctquGreatFmt
open Go.ChangeShapes Go.WideShapes Go.ChangeAt Go.RowKit Go.Ord
set_option linter.unusedVariables false

def d00 : SD := ⟨⟨none, 0, 0⟩, [], []⟩
def lawW (w : World) : World := ((w.alloc (.cells (zeros (.slice none 0 0) (3 * 1)).toArray 30)).alloc (.cells #[.slice (some ⟨w.heap.size, 0, none⟩) 3 3] 29)).alloc (.map #[] 0)
theorem HB.start {w0 w : World} (B : Below w0.heap.size w0 w) : HB w0 (lawW w) (w.heap.size + 1) w.heap.size (w.heap.size + 2) [d00, d00, d00] h00.hs h00.es.cur := by
  unfold lawW
  obtain ⟨x1, e1⟩ : ∃ z : World, z = w.alloc (.cells (zeros (.slice none 0 0) (3 * 1)).toArray 30) := ⟨_, rfl⟩
  obtain ⟨x2, e2⟩ : ∃ z : World, z = x1.alloc (.cells #[.slice (some ⟨w.heap.size, 0, none⟩) 3 3] 29) := ⟨_, rfl⟩
  obtain ⟨x3, e3⟩ : ∃ z : World, z = x2.alloc (.map #[] 0) := ⟨_, rfl⟩
  have z1 : x1.heap.size = w.heap.size + 1 := by rw [e1]; simp
  have z2 : x2.heap.size = w.heap.size + 2 := by rw [e2]; simp [z1]
  have u1 : Upd [] w x1 := by rw [e1]; exact Upd.alloc _ _ _
  have u2 : Upd [] x1 x2 := by rw [e2]; exact Upd.alloc _ _ _
  have u3 : Upd [] x2 x3 := by rw [e3]; exact Upd.alloc _ _ _
  have s1 := Sl.made w 30 (.slice none 0 0) 1 3 3 (Nat.le_refl _) (by omega)
  have b2 := Blk.new x1 #[.slice (some ⟨w.heap.size, 0, none⟩) 3 3] 29
  have m3 := MapAt.new x2 (ik .u64)
  rw [← e1] at s1
  rw [← e2, z1] at b2
  rw [← e3, z2] at m3
  rw [← e1, ← e2, ← e3]
  have hB := B.size
  have nl : ∀ (s : Nat) (d : SD), [d00, d00, d00][s]? = some d → d = d00 := fun s d hd => by have := List.mem_of_getElem? hd; simp at this; exact this
  have nl2 : ∀ (s : Nat) (l : List Tx), h00.hs[s]? = some l → l = [] := fun s d hd => by have := List.mem_of_getElem? hd; simp [h00] at this; exact this
  refine ⟨B.trans (((u1.trans u2 (by simp)).trans u3 (by simp)).below hB (by simp)), b2.keep u3 (by simp), m3.congr (fun y => rfl), ?_, rfl, rfl, fun s d l hd hl => ?_, fun s s' d d' hd _ _ k hk => ?_, by omega, by omega, by omega, fun s d hd k hk => ?_⟩
  · have q := (s1.keep u2 (by simp)).keep u3 (by simp)
    rw [zeros_one _ rfl] at q
    exact q
  · rw [nl s d hd, nl2 s l hl]
    exact ⟨rfl, rfl, Sl.empty _ _ _, fun k t b ht => by simp at ht⟩
  · rw [nl s d hd] at hk; simp [d00] at hk
  · rw [nl s d hd] at hk; simp [d00] at hk
theorem hist_snoc (l : List CT) (t : CT) : hist (l ++ [t]) = hStep (hist l) t := by simp [hist]
theorem hist_len (ts : List CT) : (hist ts).hs.length = 3 := by
  have : ∀ (l : List CT) (h : HS), h.hs.length = 3 → (l.foldl hStep h).hs.length = 3 := by
    intro l
    induction l with
    | nil => intro h hh; exact hh
    | cons t l ih => intro h hh; exact ih _ (by simp [hStep, hh])
  exact this ts h00 rfl
/-- What the append of the law hands on. -/
theorem HB.step {w0 w : World} {bH bS bM : Nat} {D : List SD} {h : HS} {t : CT} {bE : Nat} (H : HB w0 w bH bS bM D h.hs (esAt t.ab h.es t.evs).cur) (hE : RowAt bE t.evs.length (evsAt t.ab h.es t.evs) w) (hsz : ∀ l ∈ h.hs, l.length < 1000) :
    ∃ (d : SD) (l : List Tx) (g c : Nat) (w1 : World), D[t.s % 3]? = some d ∧ d.sv.n = l.length ∧ l.length < 1000 ∧ w.cell? ⟨bS, t.s % 3, none⟩ = some (.slice d.sv.a d.sv.n d.sv.c) ∧ w.cell? ⟨bH, 0, none⟩ = some (.slice (some ⟨bS, 0, none⟩) 3 3) ∧
      (Builtin.append_ #[30, 30] 30 #[.slice d.sv.a d.sv.n d.sv.c, .slice (some ⟨w.heap.size, 0, none⟩) 1 1]).run Ybaz.prog (w.alloc (.cells #[.slice (some ⟨bE, 0, none⟩) t.evs.length t.evs.length, .bool (!t.ab)] 39)) = .ok (.slice (some ⟨g, 0, none⟩) (d.sv.n + 1) c) w1 ∧
      w1.cell? ⟨bS, t.s % 3, none⟩ = some (.slice d.sv.a d.sv.n d.sv.c) ∧ w1.frozen? ⟨bS, t.s % 3, none⟩ = false ∧ bS < w.heap.size ∧ bH < w.heap.size ∧ (∃ fp, Upd fp w w1 ∧ ∀ k ∈ fp, ∃ c, Blk w k 39 c) ∧
      ∃ D', HB w0 (w1.setCell ⟨bS, t.s % 3, none⟩ (.slice (some ⟨g, 0, none⟩) (d.sv.n + 1) c)) bH bS bM D' (hStep h t).hs (hStep h t).es.cur := by
  obtain ⟨d, hd⟩ := has_at D (k := t.s % 3) (by rw [H.lD]; omega)
  obtain ⟨l, hl⟩ := has_at h.hs (k := t.s % 3) (by rw [H.lH]; omega)
  have S := H.ses _ d l hd hl
  have hl9 := hsz l (List.mem_of_getElem? hl)
  obtain ⟨g1, e1, _, e3⟩ := H.top.get (j := t.s % 3) (v := d.sv.val) (by simp [hd])
  injection e1 with e1
  injection e1 with e1
  subst e1
  have ce : w.cell? ⟨bS, t.s % 3, none⟩ = some (.slice d.sv.a d.sv.n d.sv.c) := e3
  obtain ⟨cS, hcS⟩ := H.top.ty bS (by simp)
  have nS : bS ∉ d.fs := fun hm => by obtain ⟨c', hc'⟩ := S.row.ty _ hm; exact absurd (Blk.ty hc' hcS) (by decide)
  obtain ⟨g, c, w1, r1, r2, r3, r4⟩ := run_appended w (w.alloc (.cells #[.slice (some ⟨bE, 0, none⟩) t.evs.length t.evs.length, .bool (!t.ab)] 39)) 30 30 39 2 32 slTxs (by decide) d.sv.a d.sv.n d.sv.c d.fs _ S.row [.slice (some ⟨bE, 0, none⟩) t.evs.length t.evs.length, .bool (!t.ab)] rfl (by intro u hu; simp at hu; rcases hu with rfl | rfl <;> rfl) (by rw [S.n]; omega) (Upd.refl _ _)
  have hlen : (evsAt t.ab h.es t.evs).length = t.evs.length := evsAt_len _ _ _
  have hE2 := hE.full hlen
  have A := H.app hd hl (tx := ⟨evsAt t.ab h.es t.evs, !t.ab⟩) (bE := bE) hE2 (by rw [hlen]; exact r2) r3 r4
  have c5 : w.cell? ⟨bH, 0, none⟩ = some (.slice (some ⟨bS, 0, none⟩) 3 3) := Blk.cell H.h 0
  have c6 : bH < w.heap.size := Blk.lt H.h
  have c7 : bS < w.heap.size := Blk.lt hcS
  have c8 : w1.cell? ⟨bS, t.s % 3, none⟩ = some (.slice d.sv.a d.sv.n d.sv.c) := r3.cell ce nS
  refine ⟨d, l, g, c, w1, hd, S.n, hl9, ce, c5, r1, c8, ?_, c7, c6, ⟨d.fs, r3, S.row.ty⟩, D.set (t.s % 3) ⟨⟨some ⟨g, 0, none⟩, d.sv.n + 1, c⟩, [g], d.eb ++ [bE]⟩, ?_⟩
  · exact r3.free c7 (Blk.free hcS _) nS
  · have e : h.hs.getD (t.s % 3) [] = l := by simp [hl]
    show HB _ _ _ _ _ _ (h.hs.set (t.s % 3) (h.hs.getD (t.s % 3) [] ++ [⟨evsAt t.ab h.es t.evs, !t.ab⟩])) (esAt t.ab h.es t.evs).cur
    rw [e]
    exact A
end Go.Proofs.YbulkctquGreatFmt

/-
  A slice in the midst of a block: a queue.
-/
import Derived.Test.YbulkctquGreatFmtHeap
import Derived.Lib.SliceRun
namespace Go.Proofs.YbulkctquGreatFmt
open Go.ChangeShapes Go.WideShapes Go.ChangeAt Go.RowKit Go.Ord
set_option linter.unusedVariables false

structure Win (w : World) (e : TypeId) (g off n cap : Nat) (xs : List Value) : Prop where
  len : xs.length = n
  lies : ∃ cur, Blk w g e cur ∧ n ≤ cap ∧ cap ≤ maxLen ∧ off + cap ≤ cur.size ∧ ∀ j, j < n → cur[off + j]? = xs[j]?
section
variable {w w' : World} {e : TypeId} {g off n cap : Nat} {xs : List Value}
theorem Win.of {fp : List Nat} (h : Sl w e 1 (some ⟨g, 0, none⟩) n cap fp xs) : Win w e g 0 n cap xs := by
  refine ⟨by have := h.len; omega, ?_⟩
  rcases h.lies with ⟨q, _⟩ | ⟨g', cur, q1, q2, q3, q4, q5, q6, q7⟩
  · cases q
  · injection q1 with q1; injection q1 with q1; subst q1
    refine ⟨cur, q3, q4, q5, by omega, fun j hj => ?_⟩
    rw [← q7, List.getElem?_take, if_pos (by omega)]; simp
theorem Win.keep {S : List Nat} (h : Win w e g off n cap xs) (hu : Upd S w w') (hn : g ∉ S) : Win w' e g off n cap xs := by
  obtain ⟨cur, h1, h2⟩ := h.lies
  exact ⟨h.len, cur, h1.keep hu hn, h2⟩
theorem Win.lt (h : Win w e g off n cap xs) : g < w.heap.size := by
  obtain ⟨cur, h1, _⟩ := h.lies; exact h1.lt
theorem Win.le (h : Win w e g off n cap xs) : n ≤ cap ∧ cap ≤ maxLen := by
  obtain ⟨cur, _, h1, h2, _⟩ := h.lies; exact ⟨h1, h2⟩
theorem Win.get (h : Win w e g off n cap xs) {j : Nat} {v : Value} (hj : xs[j]? = some v) : w.cell? ⟨g, off + j, none⟩ = some v := by
  obtain ⟨cur, h1, _, _, _, h2⟩ := h.lies
  have := (List.getElem?_eq_some_iff.mp hj).1
  rw [h.len] at this
  rw [h1.cell, h2 j this, hj]
theorem Win.tail {x : Value} (h : Win w e g off (n + 1) cap (x :: xs)) : Win w e g (off + 1) n (cap - 1) xs := by
  obtain ⟨cur, h1, h2, h3, h4, h5⟩ := h.lies
  have hl := h.len
  refine ⟨by simpa using hl, cur, h1, by omega, by omega, by omega, fun j hj => ?_⟩
  have := h5 (j + 1) (by omega)
  rw [show off + 1 + j = off + (j + 1) by omega, this]; simp
theorem Win.tail0 {x : Value} (h : Win w e g off (n + 1) 1 (x :: xs)) : Win w e g off n 0 xs := by
  obtain ⟨cur, h1, h2, h3, h4, h5⟩ := h.lies
  have hl := h.len
  refine ⟨by simpa using hl, cur, h1, by omega, by omega, by omega, fun j hj => by omega⟩
end
theorem Blk.sets {t : TypeId} {b : Nat} : ∀ (vs : List Value) (o : Nat) (w : World) (cs : Array Value), Blk w b t cs → ∃ cs', Blk (w.setCells b o vs) b t cs' ∧ cs'.size = cs.size ∧ ∀ j, j < o → cs'[j]? = cs[j]?
  | [], o, w, cs, h => ⟨cs, h, rfl, fun _ _ => rfl⟩
  | v :: vs, o, w, cs, h => by
    obtain ⟨cs', h1, h2, h3⟩ := Blk.sets vs (o + 1) _ _ (h.store o v)
    refine ⟨cs', h1, by rw [h2]; simp, fun j hj => ?_⟩
    rw [h3 j (by omega), Array.getElem?_setIfInBounds, if_neg (by omega)]
theorem Upd.sets {b : Nat} : ∀ (vs : List Value) (o : Nat) (w : World), Upd [b] w (w.setCells b o vs)
  | [], o, w => Upd.refl _ _
  | v :: vs, o, w => (Upd.store w b o v).trans (Upd.sets vs (o + 1) _) (fun k hk => .inl hk)
theorem run_append_win {P : Program} (W : World) (t ty e : TypeId) (bytes : Nat) (H : SliceOf P t e 1 bytes) (hb : bytes ≤ 100) (g off n cap : Nat) (xs : List Value) (hs : Win W e g off n cap xs) (u : Value) (h1 : u.oneCell' = true) (hn : n < 1000000000000) :
    ∃ g' off' cap' w', (Builtin.append_ #[t, t] ty #[.slice (some ⟨g, off, none⟩) n cap, .slice (some ⟨W.heap.size, 0, none⟩) 1 1]).run P (W.alloc (.cells #[u] e)) = .ok (.slice (some ⟨g', off', none⟩) (n + 1) cap') w' ∧ Win w' e g' off' (n + 1) cap' (xs ++ [u]) ∧ Upd [g] W w' ∧ (g' = g ∨ W.heap.size ≤ g') := by
  obtain ⟨ht, i, z, hi, hz, hsize, hby, hzs, hsz⟩ := H
  have hu : Upd [] W (W.alloc (.cells #[u] e)) := Upd.alloc [] _ _
  have hs2 := hs.keep hu (by simp)
  obtain ⟨cur, c1, c2, c3, c4, c5⟩ := hs2.lies
  have hl := hs.len
  by_cases hroom : n + 1 ≤ cap
  · have hr := run_append_room_cells (P := P) (W.alloc (.cells #[u] e)) t ty e i ht hi g off n cap ⟨W.heap.size, 0, none⟩ 1 1 [u] (by simp [hsize]) (one_new W u e) (by simpa using h1) hroom
      (fun j hj => by
        have hj0 : j = 0 := by simpa using hj
        subst hj0
        rw [c1.cell, hsize]
        have : off + n * 1 + 0 < cur.size := by omega
        simp only [this, Array.getElem?_eq_getElem]; rfl)
      (fun j hj => c1.free _)
    refine ⟨g, off, cap, _, hr, ⟨by simp [hl], ?_⟩, ?_, .inl rfl⟩
    · rw [hsize, Nat.mul_one]
      refine ⟨_, c1.store (off + n) u, hroom, c3, by simpa using c4, fun j hj => ?_⟩
      rw [Array.getElem?_setIfInBounds]
      by_cases e1 : j = n
      · subst e1
        rw [if_pos rfl, if_pos (by omega), List.getElem?_append_right (by omega), hl]; simp
      · rw [if_neg (by omega), c5 j (by omega), List.getElem?_append_left (by omega)]
    · exact (hu.mono (by simp)).trans (Upd.sets _ _ _) (fun k hk => .inl hk)
  · obtain ⟨v', w', hrun, ho, hg⟩ := run_append_arg_grows (P := P) (W.alloc (.cells #[u] e)) t ty e i z 1 bytes ht hi hz hsize hby hzs hsz ⟨g, off, none⟩ n cap xs (by omega)
        (by
          intro j v hj
          rw [Go.WideShapes.add_plain]
          exact hs2.get hj) ⟨W.heap.size, 0, none⟩ 1 1 [u] rfl (one_new W u e) (by omega) (by unfold maxLen; omega) (by
      have : (n + 1) * bytes ≤ 1000000000000 * 100 := Nat.mul_le_mul (by omega) hb
      omega)
    have hu2 : Upd [g] (W.alloc (.cells #[u] e)) w' := (Upd.of_grown0 hg).mono (by simp)
    rcases ho.2 with ⟨_, hz⟩ | ⟨g', cap', cur', rfl, hbg, hb', r⟩
    · omega
    · refine ⟨g', 0, cap', w', hrun, Win.of (fp := [g']) ⟨ho.1, .inr ⟨g', cur', rfl, rfl, hb', r⟩⟩, (hu.mono (by simp)).trans hu2 (fun k hk => .inl hk), .inr ?_⟩
      have := hu.size; omega
end Go.Proofs.YbulkctquGreatFmt

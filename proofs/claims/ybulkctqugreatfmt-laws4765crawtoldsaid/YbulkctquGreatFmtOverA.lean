/-
  precedeOverwriters' closure.
-/
import Derived.Test.YbulkctquGreatFmtOverP
import Derived.Deep.DeepCutAuto
namespace Go.Proofs.YbulkctquGreatFmt
open Go.ChangeShapes Go.WideShapes Go.ChangeAt Go.RowKit Go.Ord
set_option linter.unusedVariables false

attribute [-go_sem] Go.Builtin.append_
theorem run_append_new {P : Program} (w : World) (t ty e : TypeId) (bytes : Nat) (H : SliceOf P t e 1 bytes) (hb : bytes ≤ 64) (ao : Option Addr) (n cap : Nat) (fp : List Nat) (xs : List Value) (hs : Sl w e 1 ao n cap fp xs) (u : Value) (h1 : u.oneCell' = true) (hn : n < 1000000000000) :
    ∃ g' cap' w', (Builtin.append_ #[t, t] ty #[.slice ao n cap, .slice (some ⟨w.heap.size, 0, none⟩) 1 1]).run P ((w.alloc (.cells #[u] e)).drew) = .ok (.slice (some ⟨g', 0, none⟩) (n + 1) cap') w' ∧ Sl w' e 1 (some ⟨g', 0, none⟩) (n + 1) cap' [g'] (xs ++ [u]) ∧ Upd fp w w' ∧ (g' ∈ fp ∨ w.heap.size ≤ g') := by
  obtain ⟨ht, i, z, hi, hz, hsize, hby, hzs, hsz⟩ := H
  have hu : Upd [] w ((w.alloc (.cells #[u] e)).drew) := (Upd.alloc [] _ _).trans (Upd.drew [] _) (by simp)
  obtain ⟨g', cap', w', q1, q2, q3, q4⟩ := run_append (P := P) ((w.alloc (.cells #[u] e)).drew) t ty e i z 1 bytes ht hi hz hsize hby hzs hsz ao n cap fp xs (hs.keep hu (by simp)) ⟨w.heap.size, 0, none⟩ 1 1 [u] rfl (one_new w u e) (by simpa using h1) (by omega) (by unfold maxLen; omega) (by
    have : (n + 1) * bytes ≤ (n + 1) * 64 := Nat.mul_le_mul_left _ hb
    omega)
  refine ⟨g', cap', w', q1, q2, (hu.mono (by simp)).trans q3 (fun k hk => .inl hk), ?_⟩
  rcases q4 with q4 | q4
  · exact .inl q4
  · exact .inr (by have : w.heap.size ≤ ((w.alloc (.cells #[u] e)).drew).heap.size := hu.size; omega)
set_option maxHeartbeats 4000000 in
set_option maxRecDepth 100000 in
theorem add62 (w0 w : World) (L : List Pc) (h : Pcs w0 w L) (b3 b16 bt fb cf m i3 ib it : Nat) (fa : List Int) (fp : List Nat) (ows : List (List Nat)) (h3 : L[i3]? = some ([b3], CellIs b3 (.slice (some ⟨fb, 0, none⟩) fa.length cf)))
    (hB : L[ib]? = some ([b16], CellIs b16 (.slice (some ⟨bt, 0, none⟩) m m))) (hT : L[it]? = some (fp, Tab bt m fp ows)) (hib : ib ≠ it) (k u : Nat) (i : Int) (r : List Nat) (hk : fa[k]? = some i)
    (hfa : w.cell? ⟨fb, k, none⟩ = some (.int .i64 i)) (hr : ows[k]? = some r) (hl : r.length < 1000) :
    Calls Ybaz.prog 62 #[.int .i64 k, .int .i64 u, .pointer (some ⟨b3, 0, none⟩), .pointer (some ⟨b16, 0, none⟩)] w fun e w' => e = .returned (.tuple #[]) ∧ ∃ fp', Pcs w0 w' (L.set it (fp', Tab bt m fp' (if i = (u : Int) then ows else ows.set k (r ++ [u])))) := by
  have c3 : w.cell? ⟨b3, 0, none⟩ = some (.slice (some ⟨fb, 0, none⟩) fa.length cf) := h.mem h3
  have c16 : w.cell? ⟨b16, 0, none⟩ = some (.slice (some ⟨bt, 0, none⟩) m m) := h.mem hB
  have T : Tab bt m fp ows w := h.mem hT
  have hkl := (List.getElem?_eq_some_iff.mp hk).1
  have hrl := (List.getElem?_eq_some_iff.mp hr).1
  rw [T.len] at hrl
  obtain ⟨s, f, q1, q2, q3, q4, q5, q6, q7, q8, q9⟩ := T.at hr
  have hbt := World.block_lt_of_cell? _ _ q1
  have hb16 := World.block_lt_of_cell? _ _ c16
  have hn16 : Hid (b16 ∉ f) := fun hm => h.apart hB hT hib b16 (by simp) (q6 _ hm)
  have hsn : s.n < 1000000000000 := by omega
  have HH : Hid _ := h
  have HT : Hid (L[it]? = some (fp, Tab bt m fp ows)) := hT
  have Q4 : Hid _ := q4
  have Q5 : Hid (bt ∉ f) := q5
  have Q9 : Hid _ := q9
  have TN : Hid _ := T
  clear h h3 hB hT T q3 q4 q5 q6 q7 q8 q9 hr hib hk hl
  go_enter Ybaz.func62, Ybaz.ntmps62
  by_cases e : i = (u : Int)
  · go_wp2_with fail
    go_end0
    refine ⟨rfl, fp, ?_⟩
    try rw [if_pos e]
    have := HH.out
    have e2 : L.set it (fp, Tab bt m fp ows) = L := by
      apply List.ext_getElem?
      intro j
      by_cases ej : it = j
      · subst ej
        rw [List.getElem?_set_self (List.getElem?_eq_some_iff.mp HT.out).1, HT.out]
      · rw [List.getElem?_set_ne ej]
    rw [e2]; exact this
  · have e' : ¬ (i = (u : Int)) := e
    go_wp2_with fail
    obtain ⟨gR, cR', w1, hrun, hS1, hU1, hF1⟩ := run_append_new w 83 83 3 8 slInts (by decide) s.a s.n s.c f (r.map nI) Q4.out (.int .i64 u) rfl hsn
    have p1 := hU1.cell c16 (by simpa using hn16.out)
    have p2 := hU1.cell q1 (by simpa using Q5.out)
    have p3 := hU1.free hbt q2 (by simpa using Q5.out)
    have H1 : Hid _ := hS1
    have U1 : Hid _ := hU1
    have F1 : Hid _ := hF1
    clear hS1 hU1 hF1
    go_big_region
    all_goals go_wp2_with fail
    all_goals go_end0
    all_goals (
      obtain ⟨fp', t1, t2, t3⟩ := Q9.out gR cR' u w1 H1.out U1.out F1.out
      refine ⟨rfl, fp', ?_⟩
      try rw [if_neg e']
      have hz : w1.heap.size ≤ (w1.setCell ⟨bt, k, none⟩ (.slice (some ⟨gR, 0, none⟩) (s.n + 1) cR')).heap.size := by simp [World.setCell]
      exact HH.out.put HT.out t2 t1 (Tab.keeps _ _ _ _) (fun x hx => ⟨(t3 x hx).1, by have := (t3 x hx).2; omega⟩) t1.nd)
end Go.Proofs.YbulkctquGreatFmt

/-
  newSessionPolygraph: its memory while it numbers the nodes.
-/
import Derived.Test.YbulkctquGreatFmtNspP
namespace Go.Proofs.YbulkctquGreatFmt
open Go.ChangeShapes Go.WideShapes Go.ChangeAt Go.RowKit Go.Ord
set_option linter.unusedVariables false

theorem info105 : (Ybaz.prog.info? 105).map (fun i => (i.zero, i.size, i.bytes)) = some (some (.agg #[.int .i64 0, .int .i64 0]), 2, 16) := by kernel_rfl
theorem mkTxs : MakeOf Ybaz.prog 80 105 (.agg #[.int .i64 0, .int .i64 0]) 2 16 := MakeOf.mk Ybaz.underlying80 info105
theorem key105 : KeyLaw Ybaz.prog 105 k2 := pairKeys Ybaz.underlying105 Ybaz.underlying3 (by kernel_rfl) (by decide) (by decide) rfl rfl rfl rfl (by kernel_rfl)
def atOf (A : List Rk) (t : Nat) : Nat × Nat := ((A.getD t ⟨0, 0, 0, false, false⟩).s, (A.getD t ⟨0, 0, 0, false, false⟩).k)
def ats (A : List Rk) (zs : List Nat) : List (Nat × Nat) := zs.map (atOf A)
def nmsAt (A : List Rk) (zs : List Nat) (v : Nat) : List (List UInt8) := ((ats A zs).take v).map (fun p => nm p.1 p.2) ++ List.replicate (zs.length - v) []
def txsAt (A : List Rk) (zs : List Nat) (v : Nat) : List (Nat × Nat) := (ats A zs).take v ++ List.replicate (zs.length - v) (0, 0)
theorem nmsAt_zero {A : List Rk} {zs : List Nat} {m : Nat} (h : zs.length = m) : nmsAt A zs 0 = List.replicate m [] := by simp [nmsAt, h]
theorem txsAt_zero {A : List Rk} {zs : List Nat} {m : Nat} (h : zs.length = m) : txsAt A zs 0 = List.replicate m (0, 0) := by simp [txsAt, h]
structure NMI (A : List Rk) (zs : List Nat) (v : Nat) (NM : Nat × Nat → Option Nat) : Prop where
  fwd : ∀ p x, NM p = some x → x < v ∧ (ats A zs)[x]? = some p
  bwd : ∀ (x : Nat) (p : Nat × Nat), x < v → (ats A zs)[x]? = some p → ∃ y, NM p = some y
def kc0 (bN bF m : Nat) (vS vO : Value) : Nat → Option Value := fun j => if j = 0 then some (.slice (some ⟨bN, 0, none⟩) m m) else if j = 1 then some (.slice (some ⟨bF, 0, none⟩) m m) else if j = 4 then some vS else if j = 5 then some vO else if j = 6 then some (.slice none 0 0) else none
def p2C (p : Nat × Nat) : List Value := [.int .i64 p.1, .int .i64 p.2]
def NamesAt (bN m : Nat) (NS : List (List UInt8)) (w : World) : Prop := Sl w 9 1 (some ⟨bN, 0, none⟩) m m [bN] (NS.map strV)
theorem NamesAt.keeps (bN m : Nat) (NS : List (List UInt8)) : Keeps [bN] (NamesAt bN m NS) := fun w w' S h hu hS => Sl.keep h hu hS
def TxsAt (bT m : Nat) (TX : List (Nat × Nat)) (w : World) : Prop := Sl w 105 2 (some ⟨bT, 0, none⟩) m m [bT] (TX.flatMap p2C)
theorem TxsAt.keeps (bT m : Nat) (TX : List (Nat × Nat)) : Keeps [bT] (TxsAt bT m TX) := fun w w' S h hu hS => Sl.keep h hu hS
theorem grKeeps (d : Nat) (g : GG) (G : List (List Nat)) (J : List Bool) : Keeps (d :: g.foot) (fun w => Gr w d 2 g G J) := fun w w' S h hu hS => Gr.keep h hu (hS d (by simp)) (fun k hk => hS k (by simp [hk]))
abbrev LD (w : World) (top n cap : Nat) (A : List Rk) (fC : List Nat) (nV : Nat) (fV : List Nat) (bF : Nat) (zs : List Nat) (bN : Nat) (NS : List (List UInt8)) (g : GG) (G : List (List Nat)) (J : List Bool) (TX : List (Nat × Nat)) (NM : Nat × Nat → Option Nat) : List Pc :=
  LB w top n cap A fC nV fV ++ [([bF], MarksAt bF A.length zs)] ++ [([bN], NamesAt bN A.length NS)] ++ [((bN + 1) :: g.foot, fun z => Gr z (bN + 1) 2 g G J)] ++ [([bN + 2], TxsAt (bN + 2) A.length TX)] ++ [([bN + 3], fun z => MapAt z k2 (bN + 3) (fun p => (NM p).map (ik .i64)))]
def g00 (bN bF m : Nat) : GG := ⟨none, 0, none, 0, [], [], [], [], kc0 bN bF m (.slice none 0 0) (.slice none 0 0)⟩
def ldW (w2 : World) (bF m : Nat) : World := ((((w2.alloc (.cells (zeros (.string ⟨#[]⟩) m).toArray 9)).alloc (.cells #[.slice (some ⟨w2.heap.size, 0, none⟩) m m, .slice (some ⟨bF, 0, none⟩) m m, .slice none 0 0, .slice none 0 0, .slice none 0 0, .slice none 0 0, .slice none 0 0] 93)).alloc (.cells (zeros (.agg #[.int .i64 0, .int .i64 0]) (m * 2)).toArray 105)).alloc (.map #[] 0))
theorem zerosTx (m : Nat) : zeros (.agg #[.int .i64 0, .int .i64 0]) (m * 2) = (List.replicate m (0, 0)).flatMap p2C := by
  have e1 : zeros (.agg #[.int .i64 0, .int .i64 0]) (m * 2) = List.replicate (m * 2) (.int .i64 0) := by
    unfold zeros
    rw [List.eq_replicate_iff]
    refine ⟨by simp, fun b hb => ?_⟩
    simp only [List.mem_map, List.mem_range] at hb
    obtain ⟨j, _, rfl⟩ := hb
    have : j % 2 = 0 ∨ j % 2 = 1 := by omega
    rcases this with h | h <;> simp [Value.cells, h]
  rw [e1]
  clear e1
  induction m with
  | zero => rfl
  | succ m ih =>
    rw [List.replicate_succ, List.flatMap_cons, ← ih, show (m + 1) * 2 = 2 + m * 2 by omega, ← List.replicate_append_replicate]
    rfl
theorem LD.first {w w2 : World} {top n cap : Nat} {A : List Rk} {fC : List Nat} {nV : Nat} {fV : List Nat} {bF : Nat} {zs : List Nat} (h : Pcs w w2 (LB w top n cap A fC nV fV ++ [([bF], MarksAt bF A.length zs)])) (hA : A.length < 100000) :
    Pcs w (ldW w2 bF A.length) (LD w top n cap A fC nV fV bF zs w2.heap.size (List.replicate A.length []) (g00 w2.heap.size bF A.length) (List.replicate 0 []) (List.replicate 0 false) (List.replicate A.length (0, 0)) (fun _ => none)) := by
  unfold ldW
  obtain ⟨x1, e1⟩ : ∃ z : World, z = w2.alloc (.cells (zeros (.string ⟨#[]⟩) A.length).toArray 9) := ⟨_, rfl⟩
  obtain ⟨x2, e2⟩ : ∃ z : World, z = x1.alloc (.cells #[.slice (some ⟨w2.heap.size, 0, none⟩) A.length A.length, .slice (some ⟨bF, 0, none⟩) A.length A.length, .slice none 0 0, .slice none 0 0, .slice none 0 0, .slice none 0 0, .slice none 0 0] 93) := ⟨_, rfl⟩
  obtain ⟨x3, e3⟩ : ∃ z : World, z = x2.alloc (.cells (zeros (.agg #[.int .i64 0, .int .i64 0]) (A.length * 2)).toArray 105) := ⟨_, rfl⟩
  obtain ⟨x4, e4⟩ : ∃ z : World, z = x3.alloc (.map #[] 0) := ⟨_, rfl⟩
  have z1 : x1.heap.size = w2.heap.size + 1 := by rw [e1]; simp
  have z2 : x2.heap.size = w2.heap.size + 2 := by rw [e2]; simp [z1]
  have z3 : x3.heap.size = w2.heap.size + 3 := by rw [e3]; simp [z2]
  have z4 : x4.heap.size = w2.heap.size + 4 := by rw [e4]; simp [z3]
  have u1 : Upd [] w2 x1 := by rw [e1]; exact Upd.alloc _ _ _
  have u2 : Upd [] x1 x2 := by rw [e2]; exact Upd.alloc _ _ _
  have u3 : Upd [] x2 x3 := by rw [e3]; exact Upd.alloc _ _ _
  have u4 : Upd [] x3 x4 := by rw [e4]; exact Upd.alloc _ _ _
  rw [← e1, ← e2, ← e3, ← e4]
  have n1 : NamesAt w2.heap.size A.length (List.replicate A.length []) x1 := by
    have q := Sl.made w2 9 (.string ⟨#[]⟩) 1 A.length A.length (Nat.le_refl _) (by omega)
    rw [Nat.mul_one, ← e1, zeros_one _ rfl] at q
    unfold NamesAt
    rw [List.map_replicate]
    exact q
  have b2 := Blk.new x1 #[.slice (some ⟨w2.heap.size, 0, none⟩) A.length A.length, .slice (some ⟨bF, 0, none⟩) A.length A.length, .slice none 0 0, .slice none 0 0, .slice none 0 0, .slice none 0 0, .slice none 0 0] 93
  rw [← e2, z1] at b2
  have t3 : TxsAt (w2.heap.size + 2) A.length (List.replicate A.length (0, 0)) x3 := by
    have q := Sl.made x2 105 (.agg #[.int .i64 0, .int .i64 0]) 2 A.length A.length (Nat.le_refl _) (by omega)
    rw [← e3, z2, zerosTx] at q
    exact q
  have m4 := MapAt.new x3 k2
  rw [← e4, z3] at m4
  have g2 : Gr x2 (w2.heap.size + 1) 2 (g00 w2.heap.size bF A.length) (List.replicate 0 []) (List.replicate 0 false) := by
    refine ⟨b2.cell 2, b2.cell 3, b2.free 2, b2.free 3, Sl.empty _ _ _, Sl.empty _ _ _, rfl, fun i s f r hs => by simp [g00] at hs, by simp [g00, GG.foot], ?_⟩
    intro j v hj
    simp only [g00, kc0] at hj
    split at hj
    · rename_i c; subst c; injection hj with hj; subst hj; exact ⟨by decide, by decide, b2.cell 0, b2.free 0⟩
    · split at hj
      · rename_i c; subst c; injection hj with hj; subst hj; exact ⟨by decide, by decide, b2.cell 1, b2.free 1⟩
      · split at hj
        · rename_i c; subst c; injection hj with hj; subst hj; exact ⟨by decide, by decide, b2.cell 4, b2.free 4⟩
        · split at hj
          · rename_i c; subst c; injection hj with hj; subst hj; exact ⟨by decide, by decide, b2.cell 5, b2.free 5⟩
          · split at hj
            · rename_i c; subst c; injection hj with hj; subst hj; exact ⟨by decide, by decide, b2.cell 6, b2.free 6⟩
            · cases hj
  have q1 := h.add u1 (by simp) [w2.heap.size] _ n1 (NamesAt.keeps _ _ _) (by simp; omega) (by simp)
  have q2 := q1.add u2 (by simp) [w2.heap.size + 1] (fun z => Gr z (w2.heap.size + 1) 2 (g00 w2.heap.size bF A.length) (List.replicate 0 []) (List.replicate 0 false)) g2 (grKeeps _ _ _ _) (by simp; omega) (by simp)
  have q3 := q2.add u3 (by simp) [w2.heap.size + 2] _ t3 (TxsAt.keeps _ _ _) (by simp; omega) (by simp)
  have q4 := q3.add u4 (by simp) [w2.heap.size + 3] (fun z => MapAt z k2 (w2.heap.size + 3) (fun p => ((fun _ => none : Nat × Nat → Option Nat) p).map (ik .i64))) (m4.congr (fun _ => rfl)) (mapKeeps _ _ _) (by simp; omega) (by simp)
  exact q4
theorem flat_set2 : ∀ (TX : List (Nat × Nat)) (v : Nat) (p : Nat × Nat), v < TX.length → ((TX.flatMap p2C).set (v * 2) (.int .i64 p.1)).set (v * 2 + 1) (.int .i64 p.2) = (TX.set v p).flatMap p2C
  | [], v, p, h => by simp at h
  | q :: TX, 0, p, h => by simp [p2C]
  | q :: TX, v + 1, p, h => by
    have ih := flat_set2 TX v p (by simpa using h)
    rw [List.flatMap_cons, List.set_cons_succ, List.flatMap_cons, ← ih]
    have e1 : (v + 1) * 2 = (p2C q).length + v * 2 := by simp [p2C]; omega
    have e2 : (v + 1) * 2 + 1 = (p2C q).length + (v * 2 + 1) := by simp [p2C]; omega
    rw [e1, List.set_append_right _ _ (by omega), show (p2C q).length + v * 2 + 1 = (p2C q).length + (v * 2 + 1) by omega, List.set_append_right _ _ (by omega)]
    congr 1
    rw [show (p2C q).length + v * 2 - (p2C q).length = v * 2 by omega, show (p2C q).length + (v * 2 + 1) - (p2C q).length = v * 2 + 1 by omega]
theorem txsAt_len {A : List Rk} {zs : List Nat} {v : Nat} (h : v ≤ zs.length) : (txsAt A zs v).length = zs.length := by
  simp [txsAt, ats]; omega
theorem txsAt_succ {A : List Rk} {zs : List Nat} {v t : Nat} (ht : zs[v]? = some t) : txsAt A zs (v + 1) = (txsAt A zs v).set v (atOf A t) := by
  have hl := (List.getElem?_eq_some_iff.mp ht).1
  have e : (ats A zs)[v]? = some (atOf A t) := by simp [ats, ht]
  unfold txsAt
  rw [take_snoc e, List.set_append_right _ _ (by simp [ats]; omega), show zs.length - v = (zs.length - (v + 1)) + 1 by omega, List.replicate_succ]
  simp [ats, Nat.min_eq_left (Nat.le_of_lt hl)]
theorem nmsAt_succ {A : List Rk} {zs : List Nat} {v t : Nat} (ht : zs[v]? = some t) : nmsAt A zs (v + 1) = (nmsAt A zs v).set v (nm (atOf A t).1 (atOf A t).2) := by
  have hl := (List.getElem?_eq_some_iff.mp ht).1
  have e : (ats A zs)[v]? = some (atOf A t) := by simp [ats, ht]
  unfold nmsAt
  rw [take_snoc e, List.set_append_right _ _ (by simp [ats]; omega), show zs.length - v = (zs.length - (v + 1)) + 1 by omega, List.replicate_succ]
  simp [ats, Nat.min_eq_left (Nat.le_of_lt hl)]
theorem nmsAt_len {A : List Rk} {zs : List Nat} {v : Nat} (h : v ≤ zs.length) : (nmsAt A zs v).length = zs.length := by
  simp [nmsAt, ats]; omega
theorem NMI.put {A : List Rk} {zs : List Nat} {v : Nat} {NM : Nat × Nat → Option Nat} (h : NMI A zs v NM) {t : Nat} (ht : zs[v]? = some t) : NMI A zs (v + 1) (fun p => if p = atOf A t then some v else NM p) := by
  have e : (ats A zs)[v]? = some (atOf A t) := by simp [ats, ht]
  refine ⟨fun p x hx => ?_, fun x p hx hp => ?_⟩
  · by_cases c : p = atOf A t
    · simp [c] at hx; subst hx; exact ⟨by omega, by rw [c]; exact e⟩
    · simp [c] at hx
      have := h.fwd p x hx
      exact ⟨by omega, this.2⟩
  · by_cases c : p = atOf A t
    · exact ⟨v, by simp [c]⟩
    · by_cases c2 : x = v
      · subst c2; rw [e] at hp; cases hp; exact absurd rfl c
      · obtain ⟨y, hy⟩ := h.bwd x p (by omega) hp
        exact ⟨y, by simp [c, hy]⟩
theorem rkStep_at (r : Rk) (v : Ev) : (rkStep r v).s = r.s ∧ (rkStep r v).k = r.k := by unfold rkStep; split <;> simp
theorem rkFold_at : ∀ (l : List Ev) (r : Rk), (l.foldl rkStep r).s = r.s ∧ (l.foldl rkStep r).k = r.k
  | [], r => ⟨rfl, rfl⟩
  | v :: l, r => by
    have h1 := rkFold_at l (rkStep r v)
    have h2 := rkStep_at r v
    simp only [List.foldl_cons]
    exact ⟨h1.1.trans h2.1, h1.2.trans h2.2⟩
theorem rksRow_mem (s : Nat) : ∀ (l : List Tx) (k : Nat) (r : Rk), r ∈ rksRow s k l → r.s = s ∧ k ≤ r.k ∧ ∃ t, l[r.k - k]? = some t ∧ t.com = true ∧ r = rkOf s r.k t
  | [], k, r, h => by simp [rksRow] at h
  | t :: l, k, r, h => by
    simp only [rksRow, List.mem_append] at h
    rcases h with h | h
    · split at h
      · rename_i hc
        simp at h
        have e1 : r.s = s := by rw [h]; exact (rkFold_at _ _).1
        have e2 : r.k = k := by rw [h]; exact (rkFold_at _ _).2
        exact ⟨e1, by omega, t, by simp [e2], hc, by rw [e2]; exact h⟩
      · simp at h
    · obtain ⟨h1, h2, t', h3, h4, h5⟩ := rksRow_mem s l (k + 1) r h
      refine ⟨h1, by omega, t', ?_, h4, h5⟩
      rw [show r.k - k = (r.k - (k + 1)) + 1 by omega]
      simpa using h3
theorem rksAll_mem : ∀ (hs : List (List Tx)) (s : Nat) (r : Rk), r ∈ rksAll s hs → s ≤ r.s ∧ ∃ l t, hs[r.s - s]? = some l ∧ l[r.k]? = some t ∧ t.com = true ∧ r = rkOf r.s r.k t
  | [], s, r, h => by simp [rksAll] at h
  | l :: hs, s, r, h => by
    simp only [rksAll, List.mem_append] at h
    rcases h with h | h
    · obtain ⟨h1, h2, t, h3, h4, h5⟩ := rksRow_mem s l 0 r h
      exact ⟨by omega, l, t, by simp [h1], by simpa using h3, h4, by rw [h1]; exact h5⟩
    · obtain ⟨h1, l', t, h3, h4, h5, h6⟩ := rksAll_mem hs (s + 1) r h
      refine ⟨by omega, l', t, ?_, h4, h5, h6⟩
      rw [show r.s - s = (r.s - (s + 1)) + 1 by omega]
      simpa using h3
end Go.Proofs.YbulkctquGreatFmt

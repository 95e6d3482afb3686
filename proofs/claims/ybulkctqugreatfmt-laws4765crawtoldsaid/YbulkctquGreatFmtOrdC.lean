/-
  order, walked.
-/
import Derived.Test.YbulkctquGreatFmtOrdB
import Derived.Test.YbulkctquGreatFmtOrdP
import Derived.Test.YbulkctquGreatFmtView0
import Derived.Deep.LoopGhost
namespace Go.Proofs.YbulkctquGreatFmt
open Go.ChangeShapes Go.WideShapes Go.ChangeAt Go.RowKit Go.Ord
set_option linter.unusedVariables false
attribute [local go_sem ↓] Go.wp_at_zero Go.wp_at_succ

/-- The arcs into x out of the first i nodes. -/
def cntTo (G : List (List Nat)) (i x : Nat) : Nat := ((G.take i).map (fun r => r.count x)).sum
theorem cntTo_succ (G : List (List Nat)) (i x : Nat) (r : List Nat) (hr : G[i]? = some r) : cntTo G (i + 1) x = cntTo G i x + r.count x := by
  unfold cntTo
  rw [List.take_add_one, hr]
  simp
theorem cntTo_all (G : List (List Nat)) (x : Nat) : cntTo G G.length x = cnt G [] x := by
  unfold cntTo cnt
  rw [List.take_length]
  congr 1
  apply List.ext_getElem?
  intro j
  by_cases hj : j < G.length
  · simp [hj, outs]
  · simp [hj]
theorem cntTo_le (G : List (List Nat)) (i x : Nat) : cntTo G i x ≤ wt G := by
  have h1 : ∀ l : List (List Nat), (l.map (fun r => r.count x)).sum ≤ (l.map List.length).sum := by
    intro l
    induction l with
    | nil => simp
    | cons a l ih => simp; have : a.count x ≤ a.length := List.count_le_length; omega
  have h2 : ((G.take i).map List.length).sum ≤ (G.map List.length).sum := by
    conv => rhs; rw [← List.take_append_drop i G]
    rw [List.map_append, List.sum_append]; omega
  exact Nat.le_trans (h1 _) h2

/-- order's memory while it counts. -/
structure St1 (w0 w : World) (d o N : Nat) (pre : List Nat) : Prop where
  bel : Below w0.heap.size w0 w
  cg : w.cell? ⟨w0.heap.size, 0, none⟩ = some (.pointer (some ⟨d, o, none⟩))
  rp : Sl w 3 1 (some ⟨w0.heap.size + 1, 0, none⟩) N N [w0.heap.size + 1] (pre.map nI)
theorem St1.put {w0 w : World} {d o N : Nat} {pre : List Nat} (h : St1 w0 w d o N pre) (i x : Nat) : St1 w0 (w.setCell ⟨w0.heap.size + 1, i, none⟩ (nI x)) d o N (pre.set i x) := by
  have hu := Upd.store w (w0.heap.size + 1) i (nI x)
  have s := h.rp.store i (nI x)
  rw [← List.map_set] at s
  exact ⟨h.bel.trans (hu.below h.bel.size (by simp)), hu.cell h.cg (by simp), s⟩
theorem St1.len {w0 w : World} {d o N : Nat} {pre : List Nat} (h : St1 w0 w d o N pre) : pre.length = N := by have := h.rp.len; simpa using this
theorem St1.has {w0 w : World} {d o N : Nat} {pre : List Nat} (h : St1 w0 w d o N pre) {i n : Nat} (hi : pre[i]? = some n) : w.cell? ⟨w0.heap.size + 1, i, none⟩ = some (.int .i64 n) ∧ w.frozen? ⟨w0.heap.size + 1, i, none⟩ = false := by
  have hl := h.len
  have h1 := (List.getElem?_eq_some_iff.mp hi).1
  obtain ⟨g, e, _, _, c, z⟩ := h.rp.has (by omega)
  injection e with e
  injection e with e
  subst e
  exact ⟨by rw [c i (by omega)]; simp [hi, nI], z i⟩
theorem OA.has {w0 w : World} {bg bp bq bh d o N : Nat} {pre Q R P : List Nat} {vP : SV} {fQ fR fP : List Nat} (h : OA w0 w bg bp bq bh d o N pre Q R P vP fQ fR fP) {i n : Nat} (hi : pre[i]? = some n) : w.cell? ⟨bp, i, none⟩ = some (.int .i64 n) ∧ w.frozen? ⟨bp, i, none⟩ = false := by
  have hl := h.prelen
  have h1 := (List.getElem?_eq_some_iff.mp hi).1
  obtain ⟨g, e, _, _, c, z⟩ := h.rp.has (by omega)
  injection e with e
  injection e with e
  subst e
  exact ⟨by rw [c i (by omega)]; simp [hi, nI], z i⟩

theorem HpG.at {w : World} {h n c : Nat} {a : Option Addr} {f xs : List Nat} (H : HpG w h a n c f xs) (hn : 0 < n) : ∃ b, a = some ⟨b, 0, none⟩ ∧ f = [b] ∧ HpAt w h b n c xs := by
  obtain ⟨b, e1, e2, _⟩ := H.row.has hn
  subst e1 e2
  exact ⟨b, rfl, rfl, H.box, H.fre, H.row, by have := H.ne; simpa using this⟩
theorem sl_cut {w : World} {e : TypeId} {a : Option Addr} {n c : Nat} {f : List Nat} {xs : List Value} {y : Value} (h : Sl w e 1 a (n + 1) c f (xs ++ [y])) : Sl w e 1 a n c f xs := by
  have hl := h.len
  simp at hl
  refine ⟨by omega, ?_⟩
  rcases h.lies with ⟨_, e, _⟩ | ⟨g, cur, e1, e2, e3, e4, e5, e6, e7⟩
  · omega
  · refine .inr ⟨g, cur, e1, e2, e3, by omega, e5, e6, ?_⟩
    have : (cur.toList.take ((n + 1) * 1)).take (n * 1) = xs := by rw [e7, List.take_left' (by omega)]
    rw [List.take_take] at this
    rw [← this]; congr 1; omega
theorem hp_le {xs : List Nat} (h : Hp xs xs.length) : ∀ x ∈ xs, hg xs 0 ≤ x := by
  intro x hx
  obtain ⟨i, hi⟩ := List.getElem?_of_mem hx
  have hl := (List.getElem?_eq_some_iff.mp hi).1
  have := hp_min h i i (Nat.le_refl _) hl
  simpa [hg, hi] using this

/-- Before the first node: the first i nodes looked at. -/
structure S3 (G : List (List Nat)) (J : List Bool) (i : Nat) (Q R : List Nat) : Prop where
  m : ∀ x, x < G.length → ((x ∈ Q ∨ x ∈ R) ↔ (x < i ∧ cnt G [] x = 0))
  q : ∀ x ∈ Q, x < G.length ∧ juncAt J x = true
  r : ∀ x ∈ R, x < G.length ∧ juncAt J x = false
  nq : Q.Nodup
  nr : R.Nodup
  len : Q.length + R.length ≤ i
theorem S3.skip {G : List (List Nat)} {J : List Bool} {i : Nat} {Q R : List Nat} (h : S3 G J i Q R) (hc : cnt G [] i ≠ 0) : S3 G J (i + 1) Q R := by
  refine ⟨fun x hx => ?_, h.q, h.r, h.nq, h.nr, by have := h.len; omega⟩
  rw [h.m x hx]
  constructor
  · rintro ⟨a, b⟩; exact ⟨by omega, b⟩
  · rintro ⟨a, b⟩
    have : x ≠ i := fun e => hc (e ▸ b)
    exact ⟨by omega, b⟩
theorem S3.addQ {G : List (List Nat)} {J : List Bool} {i : Nat} {Q R : List Nat} (h : S3 G J i Q R) (hi : i < G.length) (hc : cnt G [] i = 0) (hj : juncAt J i = true) : S3 G J (i + 1) (Q ++ [i]) R := by
  have hn : ¬ (i ∈ Q ∨ i ∈ R) := fun e => by have := ((h.m i hi).1 e).1; omega
  refine ⟨fun x hx => ?_, ?_, h.r, ?_, h.nr, by have := h.len; simp; omega⟩
  · by_cases e : x = i
    · subst e; simp [hc]
    · have := h.m x hx
      simp only [List.mem_append, List.mem_singleton, e, or_false]
      rw [this]
      constructor
      · rintro ⟨a, b⟩; exact ⟨by omega, b⟩
      · rintro ⟨a, b⟩; exact ⟨by omega, b⟩
  · intro x hx
    simp only [List.mem_append, List.mem_singleton] at hx
    rcases hx with hx | rfl
    · exact h.q x hx
    · exact ⟨hi, hj⟩
  · rw [List.nodup_append]
    exact ⟨h.nq, by simp, by intro a ha b hb e; simp at hb; subst hb e; exact hn (.inl ha)⟩
theorem S3.addR {G : List (List Nat)} {J : List Bool} {i : Nat} {Q R R' : List Nat} (h : S3 G J i Q R) (hi : i < G.length) (hc : cnt G [] i = 0) (hj : juncAt J i = false) (hp : R'.Perm (i :: R)) : S3 G J (i + 1) Q R' := by
  have hn : ¬ (i ∈ Q ∨ i ∈ R) := fun e => by have := ((h.m i hi).1 e).1; omega
  refine ⟨fun x hx => ?_, h.q, ?_, h.nq, ?_, by have := h.len; have := hp.length_eq; simp at this; omega⟩
  · rw [hp.mem_iff]
    by_cases e : x = i
    · subst e; simp [hc]
    · have := h.m x hx
      simp only [List.mem_cons, e, false_or]
      rw [this]
      constructor
      · rintro ⟨a, b⟩; exact ⟨by omega, b⟩
      · rintro ⟨a, b⟩; exact ⟨by omega, b⟩
  · intro x hx
    rcases List.mem_cons.mp (hp.subset hx) with rfl | hx
    · exact ⟨hi, hj⟩
    · exact h.r x hx
  · rw [hp.nodup_iff, List.nodup_cons]
    exact ⟨fun e => hn (.inr e), h.nr⟩
theorem S3.start {G : List (List Nat)} {J : List Bool} {Q R pre : List Nat} (h : S3 G J G.length Q R) (hc : ∀ x, x < G.length → pre[x]? = some (cnt G [] x)) : SI G J [] pre Q R [] := by
  refine ⟨Trace.nil _ _, hc, fun x hx => ?_, h.q, h.r, h.nq, h.nr, rfl⟩
  rw [h.m x hx]
  simp [hx]
theorem SI.bound {G : List (List Nat)} {J : List Bool} {D pre Q R P : List Nat} (h : SI G J D pre Q R P) : Q.length ≤ G.length ∧ R.length ≤ G.length ∧ P.length ≤ G.length :=
  ⟨nodup_len _ Q h.nq (fun x hx => (h.q x hx).1), nodup_len _ R h.nr (fun x hx => (h.r x hx).1), by rw [h.p]; exact Nat.le_trans (List.length_filter_le _ _) h.tr.len⟩
theorem SK.bound {G : List (List Nat)} {J : List Bool} {D pre Q R P : List Nat} {v k : Nat} (h : SK G J D v k pre Q R P) : Q.length ≤ G.length ∧ R.length ≤ G.length ∧ P.length ≤ G.length :=
  ⟨nodup_len _ Q h.nq (fun x hx => (h.q x hx).1), nodup_len _ R h.nr (fun x hx => (h.r x hx).1), by rw [h.p]; exact Nat.le_trans (List.length_filter_le _ _) h.tr.len⟩

set_option maxHeartbeats 16000000 in
set_option maxRecDepth 100000 in
theorem order47 (w : World) (d o : Nat) (G : List (List Nat)) (J : List Bool) (h : GrR w d o G J) (hl : G.length < 100000) (hout : ∀ r ∈ G, ∀ x ∈ r, x < G.length) (hwt : wt G < 1000000) :
    Calls Ybaz.prog 47 #[.pointer (some ⟨d, o, none⟩)] w fun e w' => ∃ (vP : SV) (D fP : List Nat), e = .returned (.slice vP.a vP.n vP.c) ∧ Trace G J D ∧ (∀ x, x < G.length → x ∉ D → cnt G D x ≠ 0) ∧
      Sl w' 3 1 vP.a vP.n vP.c fP ((D.filter (fun v => !juncAt J v)).map nI) ∧ (∀ k ∈ fP, w.heap.size ≤ k) ∧ Below w.heap.size w w' := by
  obtain ⟨aS, kS, aJ, kJ, c1, c2, b1, b2, b4, b3⟩ := h.lies
  have hd : d < w.heap.size := World.block_lt_of_cell? _ _ c1
  have hd1 : d < w.heap.size + 1 := by omega
  have HG : Hid _ := h
  have HV : Hid _ := b3
  have HO : Hid _ := hout
  have hm := mkInts.made G.length G.length (Nat.le_refl _) (by omega) (by decide)
  clear h b3 hout b4
  go_enter Ybaz.func47, Ybaz.ntmps47
  go_wp2_with fail
  have S0 : Hid (St1 w ((w.alloc (.cells #[.pointer (some ⟨d, o, none⟩)] 147)).alloc (.cells (zeros (.int .i64 0) G.length).toArray 3)) d o G.length (List.replicate G.length 0)) := by
    have q := Sl.made (w.alloc (.cells #[.pointer (some ⟨d, o, none⟩)] 147)) 3 (.int .i64 0) 1 G.length G.length (Nat.le_refl _) (by omega)
    rw [Nat.mul_one] at q
    have e0 : zeros (.int .i64 0) G.length = (List.replicate G.length 0).map nI := by rw [zeros_one _ rfl, List.map_replicate]; rfl
    rw [e0] at q ⊢
    have b := (Blk.new w #[.pointer (some ⟨d, o, none⟩)] 147).keep (Upd.alloc [] _ (.cells ((List.replicate G.length 0).map nI).toArray 3)) (by simp)
    exact ⟨((Below.refl _ _).alloc (Nat.le_refl _) _).alloc (by simp) _, b.cell 0, by simpa using q⟩
  clear hm
  go_loopw [29] (fun t29 wr => ∃ (i : Nat) (pre : List Nat), t29 = .int .i64 i ∧ i ≤ G.length ∧ St1 w wr d o G.length pre ∧ ∀ x, x < G.length → pre[x]? = some (cntTo G i x)) (fun u _ => G.length - (intOf u).toNat)
  case atStart => exact ⟨0, _, rfl, by omega, S0.out, fun x hx => by rw [List.getElem?_replicate_of_lt hx]; simp [cntTo]⟩
  case round =>
    obtain ⟨i, pre, rfl, h1, h2, h3⟩ := hrel
    have S1 : Hid _ := h2
    have C1 : Hid (∀ x, x < G.length → pre[x]? = some (cntTo G i x)) := h3
    clear h2 h3
    by_cases hlt : i < G.length
    · obtain ⟨r, hr⟩ := has_at G hlt
      obtain ⟨b, s, q1, q2, q3, q4, q5, q6⟩ := HV.out.row i r hr
      have l1 := (S1.out.bel.cell (World.block_lt_of_cell? _ _ q4)).trans q4
      have hrl : r.length ≤ wt G := row_wt G i r hr
      have hsn : s.n < 1000000 := by omega
      have RR : Hid (G[i]? = some r) := hr
      have Q6 : Hid _ := q6
      have Q2 : Hid (s.n = r.length) := q2
      have hi6 : i < 100000 := by omega
      subst q1
      clear hr q6 q4 q2
      go_wp2_with fail
      go_loopw [35] (fun t35 wx => ∃ (k : Nat) (pre : List Nat), t35 = .int .i64 k ∧ k ≤ s.n ∧ St1 w wx d o G.length pre ∧ ∀ x, x < G.length → pre[x]? = some (cntTo G i x + (r.take k).count x)) (fun u _ => s.n - (intOf u).toNat)
      case atStart => exact ⟨0, pre, rfl, by omega, S1.out, fun x hx => by simpa using C1.out x hx⟩
      case round =>
        obtain ⟨k, pre', rfl, h4, h5, h6⟩ := hrel
        have S2 : Hid _ := h5
        have C2 : Hid (∀ x, x < G.length → pre'[x]? = some (cntTo G i x + (r.take k).count x)) := h6
        clear h5 h6
        by_cases hk : k < s.n
        · obtain ⟨x, hx⟩ := has_at r (k := k) (by rw [← Q2.out]; exact hk)
          obtain ⟨c, e1, e2⟩ := Q6.out k x hx
          have hxN := HO.out r (List.mem_of_getElem? RR.out) x (List.mem_of_getElem? hx)
          have e3 := (S2.out.bel.cell (World.block_lt_of_cell? _ _ e2)).trans e2
          have p0 := C2.out x hxN
          obtain ⟨e4, e5⟩ := S2.out.has p0
          have hb9 : cntTo G i x + (r.take k).count x < 3000000 := by
            have a1 := cntTo_le G i x
            have a2 : (r.take k).count x ≤ (r.take k).length := List.count_le_length
            simp at a2
            omega
          have P0 : Hid _ := p0
          have HX : Hid (r[k]? = some x) := hx
          rw [e1]
          clear hx e2 p0 e1
          generalize hn : cntTo G i x + (r.take k).count x = n at e4 hb9
          have HN : Hid _ := hn
          clear hn
          have hx6 : x < 100000 := by omega
          go_wp2_with fail
          refine ⟨⟨k + 1, pre'.set x (n + 1), by go_num, by omega, S2.out.put x (n + 1), ?_⟩, by simp [intOf] <;> omega⟩
          intro y hy
          have tk : r.take (k + 1) = r.take k ++ [x] := by rw [List.take_add_one, HX.out]; rfl
          by_cases e : x = y
          · subst e
            rw [List.getElem?_set_self (by rw [S2.out.len]; exact hy), tk, List.count_append, ← HN.out]
            simp; omega
          · rw [List.getElem?_set_ne e, C2.out y hy, tk, List.count_append]
            simp [e]
        · have hk2 : k = s.n := by omega
          have HK : Hid (k = s.n) := hk2
          clear hk2
          go_wp2_with fail
          refine ⟨⟨i + 1, pre', by go_num, by omega, S2.out, fun x hx => ?_⟩, by simp [intOf] <;> omega⟩
          rw [C2.out x hx, cntTo_succ G i x r RR.out, HK.out, Q2.out, List.take_length]
    · have hi2 : i = G.length := by omega
      have HC : Hid (∀ x, x < G.length → pre[x]? = some (cnt G [] x)) := fun x hx => by rw [C1.out x hx, hi2, cntTo_all]
      obtain ⟨wq, hwq⟩ : ∃ z : World, z = wr := ⟨_, rfl⟩
      subst hwq
      have hbg := World.block_lt_of_cell? _ _ S1.out.cg
      have hbp := S1.out.rp.lt _ (List.mem_singleton.mpr rfl)
      have cg1 := S1.out.cg
      clear hi2
      have A0 : Hid (OA w ((wq.alloc (.cells #[.slice none 0 0] 187)).alloc (.cells #[.slice none 0 0] 83)) w.heap.size (w.heap.size + 1) (wq.heap.size + 1) wq.heap.size d o G.length pre [] [] [] ⟨none, 0, 0⟩ [] [] []) := by
        have U0 : Upd [] wq ((wq.alloc (.cells #[.slice none 0 0] 187)).alloc (.cells #[.slice none 0 0] 83)) := (Upd.alloc [] _ _).trans (Upd.alloc [] _ _) (by simp)
        have bh := (Blk.new wq #[.slice none 0 0] 187).keep (Upd.alloc [] _ (.cells #[.slice none 0 0] 83)) (by simp)
        have bq := Blk.new (wq.alloc (.cells #[.slice none 0 0] 187)) #[.slice none 0 0] 83
        have z : (wq.alloc (.cells #[.slice none 0 0] 187)).heap.size = wq.heap.size + 1 := by simp
        rw [z] at bq
        refine ⟨S1.out.bel.trans (U0.below S1.out.bel.size (by simp)), U0.cell S1.out.cg (by simp), S1.out.rp.keep U0 (by simp), ⟨none, 0, bq.cell 0, bq.free 0, Sl.empty _ _ _, by simp⟩, ⟨none, 0, bh.cell 0, bh.free 0, Sl.empty _ _ _, by simp⟩, fun i _ h => by simp at h, Sl.empty _ _ _, ?_, ?_⟩
        · simp; omega
        · intro k hk; simp at hk; omega
      go_wp2_with fail
      generalize hW2 : ((wq.alloc (.cells #[.slice none 0 0] 187)).alloc (.cells #[.slice none 0 0] 83)) = W2 at A0 ⊢
      generalize hbq : wq.heap.size + 1 = bq at A0 ⊢
      generalize hbh : wq.heap.size = bh at A0 ⊢
      clear hW2 hbq
      go_loopw [50] (fun t50 wr => ∃ (i : Nat) (Q R fQ fR : List Nat), t50 = .int .i64 i ∧ i ≤ G.length ∧ OA w wr w.heap.size (w.heap.size + 1) bq bh d o G.length pre Q R [] ⟨none, 0, 0⟩ fQ fR [] ∧ S3 G J i Q R) (fun u _ => G.length - (intOf u).toNat)
      case atStart => exact ⟨0, [], [], [], [], rfl, by omega, A0.out, ⟨fun x hx => by simp, by simp, by simp, List.nodup_nil, List.nodup_nil, by simp⟩⟩
      case round =>
        obtain ⟨i, Q, R, fQ, fR, rfl, h4, h5, h6⟩ := hrel
        have A1 : Hid _ := h5
        have T1 : Hid _ := h6
        clear h5 h6
        by_cases hi : i < G.length
        · have p0 := HC.out i hi
          obtain ⟨e4, e5⟩ := A1.out.has p0
          have hi6 : i < 100000 := by omega
          by_cases hz : cnt G [] i = 0
          · rw [hz] at e4
            obtain ⟨j, hj⟩ := has_at J (k := i) (by rw [HV.out.len]; exact hi)
            obtain ⟨c, f1, f2⟩ := HV.out.jun i j hj
            have g1 := (A1.out.bel.cell (World.block_lt_of_cell? _ _ f2)).trans f2
            have g2 := (A1.out.bel.cell hd).trans c2
            rw [f1] at g2
            have hjj : juncAt J i = j := by simp [juncAt, hj]
            have JJ : Hid (juncAt J i = j) := hjj
            have HZ : Hid _ := hz
            have hlen := T1.out.len
            clear p0 hz f1 f2 hj hjj
            go_wp2_with fail
            refine (rel72 A1.out i j none kJ G.length c g2 hi g1 (by omega) (by omega)).mono ?_
            rintro e w1 ⟨rfl, hq⟩
            cases j
            · simp only [Bool.false_eq_true, if_false] at hq
              obtain ⟨fR', R', k1, k2⟩ := hq
              have K1 : Hid (R'.Perm (i :: R)) := k1
              have K2 : Hid _ := k2
              clear k1 k2
              go_wp2_with fail
              exact ⟨⟨i + 1, Q, R', fQ, fR', by go_num, by omega, K2.out, T1.out.addR hi HZ.out JJ.out K1.out⟩, by simp [intOf] <;> omega⟩
            · simp only [if_true] at hq
              obtain ⟨fQ', k2⟩ := hq
              have K2 : Hid _ := k2
              clear k2
              go_wp2_with fail
              exact ⟨⟨i + 1, Q ++ [i], R, fQ', fR, by go_num, by omega, K2.out, T1.out.addQ hi HZ.out JJ.out⟩, by simp [intOf] <;> omega⟩
          · have hzi : ¬ ((cnt G [] i : Nat) : Int) = 0 := by omega
            have HZ : Hid (cnt G [] i ≠ 0) := hz
            clear p0 hz
            go_wp2_with fail
            exact ⟨⟨i + 1, Q, R, fQ, fR, by go_num, by omega, A1.out, T1.out.skip HZ.out⟩, by simp [intOf] <;> omega⟩
        · have hi2 : i = G.length := by omega
          have SI0 : Hid (SI G J [] pre Q R []) := (hi2 ▸ T1.out).start HC.out
          clear hi2
          obtain ⟨wz, hwz⟩ : ∃ z : World, z = wr := ⟨_, rfl⟩
          subst hwz
          have hd3 : d < wz.heap.size := Nat.lt_of_lt_of_le hd A1.out.bel.size
          have cg3 := A1.out.cg
          have c13 := (A1.out.bel.cell hd).trans c1
          have hm2 : ∀ W : World, (Instr.makeSlice 83 (.int .i64 0) (.int .i64 (G.length : Int))).run Ybaz.prog W = .ok (.slice (some ⟨W.heap.size, 0, none⟩) 0 G.length) (W.alloc (.cells (zeros (.int .i64 0) G.length).toArray 3)) := fun W => by
            have := mkInts.made 0 G.length (Nat.zero_le _) (by omega) (by decide) W
            simpa using this
          have A2 : Hid (OA w (wz.alloc (.cells (zeros (.int .i64 0) G.length).toArray 3)) w.heap.size (w.heap.size + 1) bq bh d o G.length pre Q R [] ⟨some ⟨wz.heap.size, 0, none⟩, 0, G.length⟩ fQ fR [wz.heap.size]) := by
            have q := Sl.made wz 3 (.int .i64 0) 1 0 G.length (Nat.zero_le _) (by omega)
            rw [Nat.mul_one] at q
            refine A1.out.newP (P' := []) (vP' := ⟨some ⟨wz.heap.size, 0, none⟩, 0, G.length⟩) (by simpa [zeros] using q) (Upd.alloc [] _ _) ?_ (by simp)
            intro k hk; simp at hk; exact .inr (by omega)
          go_wp2_with fail
          clear hm2
          go_loopg [13] G.length (fun g t13 wr => ∃ (D pre Q R P : List Nat) (vP : SV) (fQ fR fP : List Nat), g = G.length - D.length ∧ t13 = .slice vP.a vP.n vP.c ∧ OA w wr w.heap.size (w.heap.size + 1) bq bh d o G.length pre Q R P vP fQ fR fP ∧ SI G J D pre Q R P)
          case atStart => exact ⟨[], _, _, _, _, ⟨some ⟨wz.heap.size, 0, none⟩, 0, G.length⟩, _, _, _, by simp, rfl, A2.out, SI0.out⟩
          case round =>
            obtain ⟨D, pre4, Q4, R4, P4, vP4, fQ4, fR4, fP4, rfl, rfl, h5, h6⟩ := hrel
            have A4 : Hid _ := h5
            have I4 : Hid _ := h6
            have bnd4 := h6.bound
            obtain ⟨aQ, cQ, hq⟩ := h5.q
            obtain ⟨aR, cR, hrr⟩ := h5.r
            have cq := hq.box
            have ch := hrr.box
            clear h5 h6
            rcases List.eq_nil_or_concat Q4 with rfl | ⟨Q5, v, rfl⟩
            · simp only [List.length_nil] at cq
              cases R4 with
              | nil =>
                simp only [List.length_nil] at ch
                go_wp2_with fail
                refine (len74 wr aR 0 cR).mono ?_
                rintro e w1 ⟨rfl, rfl⟩
                rw [show ((0 : Nat) : Int) = 0 from rfl]
                go_wp2_with fail
                go_ret
                refine ⟨vP4, D, fP4, rfl, I4.out.tr, fun x hx hd2 hc => ?_, ?_, fun k hk => A4.out.lo k (by simp [hk]), A4.out.bel⟩
                · have := (I4.out.m x hx).2 ⟨hd2, hc⟩
                  simp at this
                · rw [← I4.out.p]; exact A4.out.p
              | cons y R5 =>
                obtain ⟨b9, rfl, rfl, hat⟩ := hrr.at (by simp)
                have hpR := A4.out.hp
                have HAT : Hid (HpAt wr bh b9 (R5.length + 1) cR (y :: R5)) := hat
                have HPR : Hid (Hp (y :: R5) (R5.length + 1)) := hpR
                have HQ9 : Hid _ := hq
                simp only [List.length_cons] at ch bnd4
                clear hat hpR hrr hq
                have hTA := asInt (.int .i64 (hg (y :: R5) 0 : Nat))
                go_wp2_with fail
                refine (len74 wr _ (R5.length + 1) cR).mono ?_
                rintro e w1 ⟨rfl, rfl⟩
                rw [show ((R5.length + 1 : Nat) : Int) = (R5.length : Int) + 1 by omega]
                go_wp2_with fail
                refine (pop75 w1 bh b9 R5.length cR (y :: R5) HAT.out HPR.out (by omega)).mono ?_
                rintro e w2 ⟨rfl, ys, k1, k2, k3, k4⟩
                have hyl := k1.len
                have a5 := A4.out.newR (w' := w2) (R' := ys) (fR' := [b9]) ⟨_, cR, by rw [← hyl]; exact k1.gen⟩ (by rw [← hyl]; exact k3) k4 (fun k hk => .inl hk) (by simp)
                have sk := I4.out.takeR k2 (hp_le HPR.out)
                obtain ⟨v, hv⟩ : ∃ v, v = hg (y :: R5) 0 := ⟨_, rfl⟩
                rw [← hv] at sk hTA ⊢
                have A4' : Hid _ := a5
                have SK0 : Hid _ := sk
                have hPn : vP4.n < 1000000000000 := by have := a5.plen; omega
                clear k1 k2 k3 k4 a5 sk hyl hv HPR
                obtain ⟨r, hr⟩ := has_at G SK0.out.vl
                obtain ⟨b, s, q1, q2, q3, q4, q5, q6⟩ := HV.out.row v r hr
                have hbl : b < w.heap.size := World.block_lt_of_cell? _ _ q4
                have hrl : r.length ≤ wt G := row_wt G v r hr
                have hsn : s.n < 1000000 := by omega
                have RO : Hid (outs G v = r) := by
                  show outs G v = r
                  simp [outs, hr]
                have RR : Hid (G[v]? = some r) := hr
                have Q6 : Hid _ := q6
                have Q2 : Hid (s.n = r.length) := q2
                have Q44 : Hid (w.cell? ⟨b, v, none⟩ = some (.slice s.a s.n s.c)) := q4
                have hv6 : v < G.length := SK0.out.vl
                have hv7 : v < 100000 := by omega
                have c1q := c1
                rw [q1] at c1q
                have C1 : Hid (w.cell? ⟨d, o, none⟩ = some (.slice (some ⟨b, 0, none⟩) G.length kS)) := c1q
                clear hr q6 q4 q2 c1q q1
                go_wp2_with (first
                  | (at_builtin; refine wpList_append_one w2 _ (Upd.refl [] _) rfl (.tmp 86) (.tmp 88) 83 rfl 3 8 slInts (by decide) vP4.a vP4.n vP4.c fP4 (P4.map nI) rfl A4'.out.p (by simp) _ rfl _ _ rfl (by simp) hPn ?_; intro gX cX w3 sX uX fX; go_loud (have a6 := A4'.out.newP (w' := w3) (P' := P4 ++ [v]) (vP' := ⟨some ⟨gX, 0, none⟩, vP4.n + 1, cX⟩) (fP' := [gX]) (by simpa [nI] using sX) uX (fun k hk => by simp at hk; subst hk; exact fX) (by simp)); go_loud (have l1 := (a6.bel.cell (p := ⟨b, v, none⟩) hbl).trans Q44.out); have cg5 := a6.cg; go_loud (have c15 := (a6.bel.cell (p := ⟨d, o, none⟩) hd).trans C1.out); have A5 : Hid _ := a6; clear sX uX fX a6))
                go_loopw [98] (fun t98 wx => ∃ (k : Nat) (pre Q R fQ fR : List Nat), t98 = .int .i64 k ∧ k ≤ s.n ∧ OA w wx w.heap.size (w.heap.size + 1) bq bh d o G.length pre Q R (P4 ++ [v]) (⟨some ⟨gX, 0, none⟩, vP4.n + 1, cX⟩ : SV) fQ fR [gX] ∧ SK G J D v k pre Q R (P4 ++ [v])) (fun u _ => s.n - (intOf u).toNat)
                case atStart => exact ⟨0, _, _, _, _, _, rfl, by omega, A5.out, SK0.out⟩
                case round =>
                  obtain ⟨k, pre', Q', R', fQ', fR', rfl, h7, h8, h9⟩ := hrel
                  have A6 : Hid _ := h8
                  have K6 : Hid _ := h9
                  clear h8 h9
                  by_cases hk : k < s.n
                  · obtain ⟨x, hx⟩ := has_at r (k := k) (by rw [← Q2.out]; exact hk)
                    obtain ⟨c, e1, e2⟩ := Q6.out k x hx
                    have hxN := HO.out r (List.mem_of_getElem? RR.out) x (List.mem_of_getElem? hx)
                    have e3 := (A6.out.bel.cell (World.block_lt_of_cell? _ _ e2)).trans e2
                    obtain ⟨n, hn⟩ := has_at pre' (k := x) (by rw [A6.out.prelen]; exact hxN)
                    obtain ⟨e4, e5⟩ := A6.out.has hn
                    have ARC := K6.out.arc (by rw [RO.out]; exact hx) hxN hn
                    have hn1 := ARC.1
                    have hn9 : n < 3000000 := by
                      have a0 := K6.out.c x hxN
                      rw [hn] at a0
                      injection a0 with a0
                      have a1 : cnt G (D ++ [v]) x ≤ cnt G [] x := by
                        unfold cnt
                        have : ∀ l : List Nat, (l.map (fun u => if u ∈ D ++ [v] then 0 else (outs G u).count x)).sum ≤ (l.map (fun u => if u ∈ ([] : List Nat) then 0 else (outs G u).count x)).sum := by
                          intro l
                          induction l with
                          | nil => simp
                          | cons a l ih =>
                            simp only [List.map_cons, List.sum_cons, List.not_mem_nil, if_false] at ih ⊢
                            split <;> omega
                        exact this _
                      rw [← cntTo_all] at a1
                      have a2 := cntTo_le G G.length x
                      have a3 : ((outs G v).drop k).count x ≤ ((outs G v).drop k).length := List.count_le_length
                      rw [RO.out] at a0 a3
                      rw [List.length_drop] at a3
                      omega
                    have bnd := K6.out.bound
                    have ARC' : Hid _ := ARC
                    rw [e1]
                    clear hx e2 e1 hn ARC
                    have hx6 : x < 100000 := by omega
                    have a7 := A6.out.setPre x (n - 1)
                    have A7 : Hid _ := a7
                    have g3 : (wr.setCell ⟨w.heap.size + 1, x, none⟩ (.int .i64 ((n : Int) - 1))).cell? ⟨w.heap.size + 1, x, none⟩ = some (.int .i64 ((n : Int) - 1)) := set_same e4
                    have hc7 : (nI (n - 1)) = Value.int .i64 ((n : Int) - 1) := by unfold nI; congr 1; omega
                    rw [hc7] at a7
                    have A8 : Hid _ := a7
                    clear a7 hc7
                    by_cases hn2 : n = 1
                    · obtain ⟨j, hj⟩ := has_at J (k := x) (by rw [HV.out.len]; exact hxN)
                      obtain ⟨c9, f1, f2⟩ := HV.out.jun x j hj
                      have JJ : Hid (juncAt J x = j) := by
                        show juncAt J x = j
                        simp [juncAt, hj]
                      have g1 := (A8.out.bel.cell (World.block_lt_of_cell? _ _ f2)).trans f2
                      have g2 := (A8.out.bel.cell hd).trans c2
                      rw [f1] at g2
                      subst hn2
                      clear f1 f2 hj
                      go_wp2_with fail
                      refine (rel72 A8.out x j none kJ G.length c9 g2 hxN g1 (by omega) (by omega)).mono ?_
                      rintro e w1 ⟨rfl, hq⟩
                      cases j
                      · simp only [Bool.false_eq_true, if_false] at hq
                        obtain ⟨fR2, R2, k1, k2⟩ := hq
                        have K1 : Hid (R2.Perm (x :: R')) := k1
                        have K2 : Hid _ := k2
                        clear k1 k2
                        go_wp2_with fail
                        exact ⟨⟨k + 1, _, _, _, _, _, by go_num, by omega, K2.out, ARC'.out.2.2.2.2.2.2.2 (by simp) JJ.out _ K1.out⟩, by simp [intOf] <;> omega⟩
                      · simp only [if_true] at hq
                        obtain ⟨fQ2, k2⟩ := hq
                        have K2 : Hid _ := k2
                        clear k2
                        go_wp2_with fail
                        exact ⟨⟨k + 1, _, _, _, _, _, by go_num, by omega, K2.out, ARC'.out.2.2.2.2.2.2.1 (by simp) JJ.out⟩, by simp [intOf] <;> omega⟩
                    · have hn3 : ¬ (n : Int) - 1 = 0 := by omega
                      go_wp2_with fail
                      exact ⟨⟨k + 1, _, _, _, _, _, by go_num, by omega, A8.out, ARC'.out.2.2.2.2.2.1 (by omega)⟩, by simp [intOf] <;> omega⟩
                  · have hk2 : k = s.n := by omega
                    have fin := K6.out.done (by rw [RO.out, hk2, Q2.out]; exact Nat.le_refl _)
                    have FIN : Hid _ := fin
                    have hDl := K6.out.tr.len
                    simp only [List.length_append, List.length_singleton] at hDl
                    clear hk2 fin
                    go_wp2_with fail
                    go_roundg (G.length - (D ++ [v]).length)
                    case measure => simp; omega
                    case rel => exact ⟨D ++ [v], pre', Q', R', (P4 ++ [v]), (⟨some ⟨gX, 0, none⟩, vP4.n + 1, cX⟩ : SV), fQ', fR', [gX], rfl, rfl, A6.out, FIN.out⟩
            · rw [List.concat_eq_append] at *
              have SK0 : Hid _ := I4.out.takeQ
              obtain ⟨b9, rfl, rfl, hat⟩ := hq.at (by simp)
              have hlq : (Q5 ++ [v]).length = Q5.length + 1 := by simp
              rw [hlq] at cq bnd4 hat
              have cl9 := hat.cel (show Q5.length < Q5.length + 1 by omega)
              rw [show hg (Q5 ++ [v]) Q5.length = v by simp [hg]] at cl9
              have fr9 := hat.fre
              have hle9 := hat.row.le
              have hle91 : Q5.length + 1 ≤ cQ := hle9.1
              have hle92 : cQ ≤ 9223372036854775807 := hle9.2
              have HAT : Hid _ := hat
              clear hat hq hrr hlq hle9
              obtain ⟨r, hr⟩ := has_at G SK0.out.vl
              obtain ⟨b, s, q1, q2, q3, q4, q5, q6⟩ := HV.out.row v r hr
              have hbl : b < w.heap.size := World.block_lt_of_cell? _ _ q4
              have hrl : r.length ≤ wt G := row_wt G v r hr
              have hsn : s.n < 1000000 := by omega
              have RO : Hid (outs G v = r) := by
                show outs G v = r
                simp [outs, hr]
              have RR : Hid (G[v]? = some r) := hr
              have Q6 : Hid _ := q6
              have Q2 : Hid (s.n = r.length) := q2
              have Q44 : Hid (w.cell? ⟨b, v, none⟩ = some (.slice s.a s.n s.c)) := q4
              have hv6 : v < G.length := SK0.out.vl
              have hv7 : v < 100000 := by omega
              have c1q := c1
              rw [q1] at c1q
              have C1 : Hid (w.cell? ⟨d, o, none⟩ = some (.slice (some ⟨b, 0, none⟩) G.length kS)) := c1q
              clear hr q6 q4 q2 c1q q1
              have cgr := A4.out.cg
              go_wp2_with fail
              go_big_region
              obtain ⟨w3, hw3⟩ : ∃ z : World, z = (wr.setCell ⟨bq, 0, none⟩ (.slice (some ⟨b9, 0, none⟩) Q5.length cQ)).drew := ⟨_, rfl⟩
              have u3 : Upd [bq, b9] wr w3 := by rw [hw3]; exact ((Upd.store wr bq 0 _).mono (T := [bq, b9]) (fun k hk => .inl (by simp at hk; simp [hk]))).trans (Upd.drew [] _) (by simp)
              have ub : Upd [bq] wr w3 := by rw [hw3]; exact (Upd.store wr bq 0 _).trans (Upd.drew [] _) (by simp)
              have hg3 : HpG w3 bq (some ⟨b9, 0, none⟩) Q5.length cQ [b9] Q5 := by
                have hne := HAT.out.ne
                have rw9 := HAT.out.row.keep ub (by simpa using Ne.symm hne)
                rw [List.map_append] at rw9
                refine ⟨?_, ?_, sl_cut rw9, by simpa using hne⟩
                · rw [hw3]; exact set_same cq
                · rw [hw3]; exact set_free fr9
              have a6 := A4.out.newQ (w' := w3) (Q' := Q5) (fQ' := [b9]) ⟨_, cQ, hg3⟩ u3 (fun k hk => .inl hk) (by simp)
              have l1 := (a6.bel.cell (p := ⟨b, v, none⟩) hbl).trans Q44.out
              have cg5 := a6.cg
              have c15 := (a6.bel.cell (p := ⟨d, o, none⟩) hd).trans C1.out
              have A5 : Hid _ := a6
              rw [← hw3]
              clear a6 hg3 u3 ub hw3 cl9 fr9 cq cgr
              go_wp2_with fail
              go_loopw [98] (fun t98 wx => ∃ (k : Nat) (pre Q R fQ fR : List Nat), t98 = .int .i64 k ∧ k ≤ s.n ∧ OA w wx w.heap.size (w.heap.size + 1) bq bh d o G.length pre Q R P4 vP4 fQ fR fP4 ∧ SK G J D v k pre Q R P4) (fun u _ => s.n - (intOf u).toNat)
              case atStart => exact ⟨0, _, _, _, _, _, rfl, by omega, A5.out, SK0.out⟩
              case round =>
                obtain ⟨k, pre', Q', R', fQ', fR', rfl, h7, h8, h9⟩ := hrel
                have A6 : Hid _ := h8
                have K6 : Hid _ := h9
                clear h8 h9
                by_cases hk : k < s.n
                · obtain ⟨x, hx⟩ := has_at r (k := k) (by rw [← Q2.out]; exact hk)
                  obtain ⟨c, e1, e2⟩ := Q6.out k x hx
                  have hxN := HO.out r (List.mem_of_getElem? RR.out) x (List.mem_of_getElem? hx)
                  have e3 := (A6.out.bel.cell (World.block_lt_of_cell? _ _ e2)).trans e2
                  obtain ⟨n, hn⟩ := has_at pre' (k := x) (by rw [A6.out.prelen]; exact hxN)
                  obtain ⟨e4, e5⟩ := A6.out.has hn
                  have ARC := K6.out.arc (by rw [RO.out]; exact hx) hxN hn
                  have hn1 := ARC.1
                  have hn9 : n < 3000000 := by
                    have a0 := K6.out.c x hxN
                    rw [hn] at a0
                    injection a0 with a0
                    have a1 : cnt G (D ++ [v]) x ≤ cnt G [] x := by
                      unfold cnt
                      have : ∀ l : List Nat, (l.map (fun u => if u ∈ D ++ [v] then 0 else (outs G u).count x)).sum ≤ (l.map (fun u => if u ∈ ([] : List Nat) then 0 else (outs G u).count x)).sum := by
                        intro l
                        induction l with
                        | nil => simp
                        | cons a l ih =>
                          simp only [List.map_cons, List.sum_cons, List.not_mem_nil, if_false] at ih ⊢
                          split <;> omega
                      exact this _
                    rw [← cntTo_all] at a1
                    have a2 := cntTo_le G G.length x
                    have a3 : ((outs G v).drop k).count x ≤ ((outs G v).drop k).length := List.count_le_length
                    rw [RO.out] at a0 a3
                    rw [List.length_drop] at a3
                    omega
                  have bnd := K6.out.bound
                  have ARC' : Hid _ := ARC
                  rw [e1]
                  clear hx e2 e1 hn ARC
                  have hx6 : x < 100000 := by omega
                  have a7 := A6.out.setPre x (n - 1)
                  have A7 : Hid _ := a7
                  have g3 : (wr.setCell ⟨w.heap.size + 1, x, none⟩ (.int .i64 ((n : Int) - 1))).cell? ⟨w.heap.size + 1, x, none⟩ = some (.int .i64 ((n : Int) - 1)) := set_same e4
                  have hc7 : (nI (n - 1)) = Value.int .i64 ((n : Int) - 1) := by unfold nI; congr 1; omega
                  rw [hc7] at a7
                  have A8 : Hid _ := a7
                  clear a7 hc7
                  by_cases hn2 : n = 1
                  · obtain ⟨j, hj⟩ := has_at J (k := x) (by rw [HV.out.len]; exact hxN)
                    obtain ⟨c9, f1, f2⟩ := HV.out.jun x j hj
                    have JJ : Hid (juncAt J x = j) := by
                      show juncAt J x = j
                      simp [juncAt, hj]
                    have g1 := (A8.out.bel.cell (World.block_lt_of_cell? _ _ f2)).trans f2
                    have g2 := (A8.out.bel.cell hd).trans c2
                    rw [f1] at g2
                    subst hn2
                    clear f1 f2 hj
                    go_wp2_with fail
                    refine (rel72 A8.out x j none kJ G.length c9 g2 hxN g1 (by omega) (by omega)).mono ?_
                    rintro e w1 ⟨rfl, hq⟩
                    cases j
                    · simp only [Bool.false_eq_true, if_false] at hq
                      obtain ⟨fR2, R2, k1, k2⟩ := hq
                      have K1 : Hid (R2.Perm (x :: R')) := k1
                      have K2 : Hid _ := k2
                      clear k1 k2
                      go_wp2_with fail
                      exact ⟨⟨k + 1, _, _, _, _, _, by go_num, by omega, K2.out, ARC'.out.2.2.2.2.2.2.2 (by simp) JJ.out _ K1.out⟩, by simp [intOf] <;> omega⟩
                    · simp only [if_true] at hq
                      obtain ⟨fQ2, k2⟩ := hq
                      have K2 : Hid _ := k2
                      clear k2
                      go_wp2_with fail
                      exact ⟨⟨k + 1, _, _, _, _, _, by go_num, by omega, K2.out, ARC'.out.2.2.2.2.2.2.1 (by simp) JJ.out⟩, by simp [intOf] <;> omega⟩
                  · have hn3 : ¬ (n : Int) - 1 = 0 := by omega
                    go_wp2_with fail
                    exact ⟨⟨k + 1, _, _, _, _, _, by go_num, by omega, A8.out, ARC'.out.2.2.2.2.2.1 (by omega)⟩, by simp [intOf] <;> omega⟩
                · have hk2 : k = s.n := by omega
                  have fin := K6.out.done (by rw [RO.out, hk2, Q2.out]; exact Nat.le_refl _)
                  have FIN : Hid _ := fin
                  have hDl := K6.out.tr.len
                  simp only [List.length_append, List.length_singleton] at hDl
                  clear hk2 fin
                  go_wp2_with fail
                  go_roundg (G.length - (D ++ [v]).length)
                  case measure => simp; omega
                  case rel => exact ⟨D ++ [v], pre', Q', R', P4, vP4, fQ', fR', fP4, rfl, rfl, A6.out, FIN.out⟩
end Go.Proofs.YbulkctquGreatFmt

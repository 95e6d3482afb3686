/-
  shortestCycle, walked.
-/
import Derived.Test.YbulkctquGreatFmtScP
import Derived.Test.YbulkctquGreatFmtWin
import Derived.Test.YbulkctquGreatFmtCompB
import Derived.Deep.DeepCutAuto
namespace Go.Proofs.YbulkctquGreatFmt
open Go.ChangeShapes Go.WideShapes Go.ChangeAt Go.RowKit Go.Ord
set_option linter.unusedVariables false
attribute [local go_sem ↓] Go.wp_at_zero Go.wp_at_succ
attribute [-go_sem] Go.Builtin.append_

theorem run_append_one {P : Program} (w : World) (t ty e : TypeId) (bytes : Nat) (H : SliceOf P t e 1 bytes) (hb : bytes ≤ 64) (ao : Option Addr) (n cap : Nat) (fp : List Nat) (xs : List Value) (hs : Sl w e 1 ao n cap fp xs) (u : Value) (h1 : u.oneCell' = true) (hn : n < 1000000000000) :
    ∃ g' cap' w', (Builtin.append_ #[t, t] ty #[.slice ao n cap, .slice (some ⟨w.heap.size, 0, none⟩) 1 1]).run P (w.alloc (.cells #[u] e)) = .ok (.slice (some ⟨g', 0, none⟩) (n + 1) cap') w' ∧ Sl w' e 1 (some ⟨g', 0, none⟩) (n + 1) cap' [g'] (xs ++ [u]) ∧ Upd fp w w' ∧ (g' ∈ fp ∨ w.heap.size ≤ g') := by
  obtain ⟨ht, i, z, hi, hz, hsize, hby, hzs, hsz⟩ := H
  have hu : Upd [] w (w.alloc (.cells #[u] e)) := Upd.alloc [] _ _
  obtain ⟨g', cap', w', q1, q2, q3, q4⟩ := run_append (P := P) (w.alloc (.cells #[u] e)) t ty e i z 1 bytes ht hi hz hsize hby hzs hsz ao n cap fp xs (hs.keep hu (by simp)) ⟨w.heap.size, 0, none⟩ 1 1 [u] rfl (one_new w u e) (by simpa using h1) (by omega) (by unfold maxLen; omega) (by
    have : (n + 1) * bytes ≤ (n + 1) * 64 := Nat.mul_le_mul_left _ hb
    omega)
  refine ⟨g', cap', w', q1, q2, (hu.mono (by simp)).trans q3 (fun k hk => .inl hk), ?_⟩
  rcases q4 with q4 | q4
  · exact .inl q4
  · exact .inr (by have := hu.size; omega)
theorem sl_int {w : World} {b N c : Nat} {fp : List Nat} {xs : List Int} (h : Sl w 3 1 (some ⟨b, 0, none⟩) N c fp (xs.map iI)) {i : Nat} {z : Int} (hi : xs[i]? = some z) : w.cell? ⟨b, i, none⟩ = some (.int .i64 z) ∧ w.frozen? ⟨b, i, none⟩ = false := by
  have hl := (List.getElem?_eq_some_iff.mp hi).1
  have h1 := h.len
  obtain ⟨g, e1, _, _, e2, e3⟩ := h.has (by simp at h1; omega)
  injection e1 with e1; injection e1 with e1; subst e1
  exact ⟨(e2 i (by simp at h1; omega)).trans (by simp [hi, iI]), e3 i⟩
theorem sl_intPut {w : World} {b N c : Nat} {fp : List Nat} {xs : List Int} (h : Sl w 3 1 (some ⟨b, 0, none⟩) N c fp (xs.map iI)) (i : Nat) (z : Int) : Sl (w.setCell ⟨b, i, none⟩ (.int .i64 z)) 3 1 (some ⟨b, 0, none⟩) N c fp ((xs.set i z).map iI) := by
  have := h.store i (.int .i64 z)
  rw [show (xs.set i z).map iI = (xs.map iI).set i (.int .i64 z) by rw [List.map_set]; rfl]
  exact this
theorem sl_nat {w : World} {b N c : Nat} {fp : List Nat} {xs : List Nat} (h : Sl w 3 1 (some ⟨b, 0, none⟩) N c fp (xs.map nI)) {i : Nat} {z : Nat} (hi : xs[i]? = some z) : w.cell? ⟨b, i, none⟩ = some (.int .i64 z) ∧ w.frozen? ⟨b, i, none⟩ = false := by
  have hl := (List.getElem?_eq_some_iff.mp hi).1
  have h1 := h.len
  obtain ⟨g, e1, _, _, e2, e3⟩ := h.has (by simp at h1; omega)
  injection e1 with e1; injection e1 with e1; subst e1
  exact ⟨(e2 i (by simp at h1; omega)).trans (by simp [hi, nI]), e3 i⟩
theorem sl_natPut {w : World} {b N c : Nat} {fp : List Nat} {xs : List Nat} (h : Sl w 3 1 (some ⟨b, 0, none⟩) N c fp (xs.map nI)) (i z : Nat) : Sl (w.setCell ⟨b, i, none⟩ (.int .i64 z)) 3 1 (some ⟨b, 0, none⟩) N c fp ((xs.set i z).map nI) := by
  have := h.store i (.int .i64 z)
  rw [show (xs.set i z).map nI = (xs.map nI).set i (.int .i64 z) by rw [List.map_set]; rfl]
  exact this
def ShPost (w : World) (G : List (List Nat)) (st : Nat) : Ending → World → Prop := fun e w' => ∃ (g c : Nat) (K : List Nat), e = .returned (.slice (some ⟨g, 0, none⟩) K.length c) ∧ Sl w' 3 1 (some ⟨g, 0, none⟩) K.length c [g] (K.map nI) ∧ Cyc G st K ∧ K.length ≤ G.length + 1 ∧ w.heap.size ≤ g ∧ Below w.heap.size w w'
set_option maxHeartbeats 16000000 in
set_option maxRecDepth 100000 in
theorem short17 (w : World) (d o : Nat) (G : List (List Nat)) (J : List Bool) (h : GrR w d o G J) (hG : ∀ u, ∀ x ∈ outs G u, x < G.length) (hl : G.length < 100000) (hwt : wt G < 1000000) (st : Nat) (hst : st < G.length) (bC : Nat) (cmp : List Int) (hCl : cmp.length = G.length) (hC : ∀ (j : Nat) (x : Int), cmp[j]? = some x → w.cell? ⟨bC, j, none⟩ = some (.int .i64 x)) (c : Int) (hc : cmp[st]? = some c) (hy : ∃ y, y ≠ st ∧ RI G (fun z => cmp[z]? = some c) st y ∧ RI G (fun z => cmp[z]? = some c) y st) :
    Calls Ybaz.prog 17 #[.pointer (some ⟨d, o, none⟩), .int .i64 st, .slice (some ⟨bC, 0, none⟩) G.length G.length] w (ShPost w G st) := by
  obtain ⟨aS, kS, aJ, kJ, c1, c2, b1, b2, b4, b3⟩ := h.lies
  have hd : d < w.heap.size := World.block_lt_of_cell? _ _ c1
  have HV : Hid _ := b3
  have HG : Hid (∀ u, ∀ x ∈ outs G u, x < G.length) := hG
  have HC : Hid (∀ (j : Nat) (x : Int), cmp[j]? = some x → w.cell? ⟨bC, j, none⟩ = some (.int .i64 x)) := hC
  have HCL : Hid (cmp.length = G.length) := hCl
  have HCS : Hid (cmp[st]? = some c) := hc
  have HY : Hid (∃ y, y ≠ st ∧ RI G (fun z => cmp[z]? = some c) st y ∧ RI G (fun z => cmp[z]? = some c) y st) := hy
  have hm := mkInts.made G.length G.length (Nat.le_refl _) (by omega) (by decide)
  have hst5 : st < 100000 := by omega
  clear h b3 b4 hG hC hc hy hCl c2 b2
  go_enter Ybaz.func17, Ybaz.ntmps17
  go_wp2_with fail
  clear hm
  obtain ⟨bP, hbP⟩ : ∃ b, b = w.heap.size := ⟨_, rfl⟩
  obtain ⟨W1, hW1⟩ : ∃ z : World, z = w.alloc (.cells (zeros (.int .i64 0) G.length).toArray 3) := ⟨_, rfl⟩
  have S0 : Hid (∃ Pa : List Int, Sl W1 3 1 (some ⟨bP, 0, none⟩) G.length G.length [bP] (Pa.map iI)) := by
    refine ⟨List.replicate G.length 0, ?_⟩
    have := Sl.made w 3 (.int .i64 0) 1 G.length G.length (Nat.le_refl _) (by omega)
    rw [Nat.mul_one] at this
    rw [hW1, hbP]
    have e : zeros (.int .i64 0) G.length = (List.replicate G.length (0 : Int)).map iI := by rw [zeros_one _ rfl]; simp [iI, List.map_replicate]
    rw [e] at this ⊢
    exact this
  have B1 : Hid (Below w.heap.size w W1) := by
    have : Upd [] w W1 := by rw [hW1]; exact Upd.alloc _ _ _
    exact this.below (Nat.le_refl _) (by simp)
  rw [← hW1, ← hbP]
  have HBP : Hid (bP = w.heap.size) := hbP
  clear hW1 hbP
  go_loopw [25] (fun t25 wr => ∃ (i : Nat) (Pa : List Int), t25 = .int .i64 i ∧ i ≤ G.length ∧ Sl wr 3 1 (some ⟨bP, 0, none⟩) G.length G.length [bP] (Pa.map iI) ∧ (∀ y, y < i → Pa[y]? = some (-1)) ∧ Below w.heap.size w wr) (fun u _ => G.length - (intOf u).toNat)
  case atStart =>
    obtain ⟨Pa, q⟩ := S0.out
    exact ⟨0, Pa, rfl, by omega, q, fun y hy => by omega, B1.out⟩
  case round =>
    obtain ⟨i, Pa, rfl, hi, s1, n1, u1⟩ := hrel
    have SH : Hid _ := s1
    have NH : Hid (∀ y, y < i → Pa[y]? = some (-1)) := n1
    have UH : Hid (Below w.heap.size w wr) := u1
    have hPl : Pa.length = G.length := by have := s1.len; simpa using this
    have HPL : Hid (Pa.length = G.length) := hPl
    by_cases hlt : i < G.length
    · as_aux_lemma =>
      obtain ⟨z, hz⟩ := has_at Pa (k := i) (by omega)
      obtain ⟨cz, fz⟩ := sl_int s1 hz
      clear s1 n1 u1 hz hPl
      go_wp2_with fail
      refine ⟨⟨i + 1, Pa.set i (-1), by go_num, by omega, sl_intPut SH.out i (-1), fun y hy => ?_, UH.out.trans ((Upd.store wr bP i (.int .i64 (-1))).below UH.out.size (by have := HBP.out; simp; omega))⟩, by simp [intOf] <;> omega⟩
      by_cases e : y = i
      · subst e; rw [List.getElem?_set_self (by rw [HPL.out]; omega)]
      · rw [List.getElem?_set_ne (Ne.symm e)]; exact NH.out y (by omega)
    · as_aux_lemma =>
      obtain ⟨z, hz⟩ := has_at Pa (k := st) (by omega)
      obtain ⟨cz, fz⟩ := sl_int s1 hz
      have ePa : Pa = List.replicate G.length (-1) := by
        refine List.ext_getElem? (fun y => ?_)
        by_cases hy : y < G.length
        · rw [n1 y (by omega)]; simp [hy]
        · rw [List.getElem?_eq_none (by omega), List.getElem?_eq_none (by simp; omega)]
      have BF0 : Hid (BF G (fun z => cmp[z]? = some c) st [] [st] (Pa.set st (st : Int))) := by rw [ePa]; exact BF.start hst HCS.out
      obtain ⟨gQ, hgQ⟩ : ∃ b, b = wr.heap.size := ⟨_, rfl⟩
      obtain ⟨W2, hW2⟩ : ∃ z : World, z = (wr.setCell ⟨bP, st, none⟩ (.int .i64 (st : Int))).alloc (.cells #[.int .i64 (st : Int)] 3) := ⟨_, rfl⟩
      have sz1 : (wr.setCell ⟨bP, st, none⟩ (.int .i64 (st : Int))).heap.size = wr.heap.size := by simp [World.setCell]
      have SP : Hid (Sl W2 3 1 (some ⟨bP, 0, none⟩) G.length G.length [bP] ((Pa.set st (st : Int)).map iI)) := by
        rw [hW2]; exact (sl_intPut s1 st st).keep (Upd.alloc [] _ _) (by simp)
      have WQ : Hid (Win W2 3 gQ 0 1 1 ([st].map nI)) := by
        refine ⟨rfl, #[.int .i64 (st : Int)], ?_, by omega, by unfold maxLen; omega, Nat.le_refl _, fun j hj => by
          have : j = 0 := by omega
          subst this; rfl⟩
        rw [hW2, hgQ, ← sz1]; exact Blk.new _ _ _
      have B2 : Hid (Below w.heap.size w W2) := by
        have U : Upd [bP] wr W2 := by rw [hW2]; exact (Upd.store _ _ _ _).trans (Upd.alloc [] _ _) (by simp)
        exact u1.trans (U.below u1.size (by have := HBP.out; simp; omega))
      have HGQ : Hid (gQ ≠ bP ∧ w.heap.size ≤ gQ) := by
        have : bP < wr.heap.size := s1.lt bP (by simp)
        have := HBP.out
        exact ⟨by omega, by omega⟩
      clear s1 n1 u1 hz hPl ePa
      go_wp2_with fail
      rw [← hW2, ← hgQ]
      clear hW2 hgQ sz1 cz fz
      go_loopg [9] G.length (fun mm t9 wx => ∃ (X Q : List Nat) (Pb : List Int) (g off cp : Nat), mm = G.length - X.length ∧ t9 = .slice (some ⟨g, off, none⟩) Q.length cp ∧ BF G (fun z => cmp[z]? = some c) st X Q Pb ∧ BC G (fun z => cmp[z]? = some c) st X (X ++ Q) ∧ Sl wx 3 1 (some ⟨bP, 0, none⟩) G.length G.length [bP] (Pb.map iI) ∧ Win wx 3 g off Q.length cp (Q.map nI) ∧ g ≠ bP ∧ w.heap.size ≤ g ∧ Below w.heap.size w wx)
      case atStart => exact ⟨[], [st], _, gQ, 0, 1, by simp, rfl, BF0.out, fun x hx => by simp at hx, SP.out, WQ.out, HGQ.out.1, HGQ.out.2, B2.out⟩
      case round =>
        obtain ⟨X, Q, Pb, g, off, cp, h0, rfl, h1, h2, h3, h4, h5, h6, h7⟩ := hrel
        have hne := h1.more h2 HY.out
        obtain ⟨v, Q1, rfl⟩ : ∃ v Q1, Q = v :: Q1 := by
          cases Q with
          | nil => exact absurd rfl hne
          | cons a l => exact ⟨a, l, rfl⟩
        have MQ : Hid (_ = G.length - X.length) := h0
        have BFH : Hid _ := h1.pop
        have BCH : Hid _ := h2.pop
        have SPH : Hid _ := h3
        have WNH : Hid (Win wr 3 g (if cp = 1 then off else off + 1) Q1.length (cp - 1) (Q1.map nI)) := by
          by_cases q : cp = 1
          · show Win _ _ _ _ _ _ _
            rw [if_pos q]; subst q; exact h4.tail0
          · show Win _ _ _ _ _ _ _
            rw [if_neg q]; exact h4.tail
        have BLH : Hid (Below w.heap.size w wr) := h7
        have HGN : Hid (g ≠ bP ∧ w.heap.size ≤ g) := ⟨h5, h6⟩
        have hsh := h1.short
        have hX : X.length + 1 + Q1.length ≤ G.length := by simp at hsh; omega
        have hv := (h1.inn v (by simp)).1
        have cv : wr.cell? ⟨g, off, none⟩ = some (.int .i64 v) := h4.get (j := 0) (v := nI v) rfl
        have hcp := h4.le
        have hcp1 : Q1.length + 1 ≤ cp := by have := hcp.1; simpa using this
        have hcp2 : cp ≤ 9223372036854775807 := hcp.2
        obtain ⟨row, hrow⟩ := has_at G hv
        have orow : outs G v = row := by simp [outs, List.getD_eq_getElem?_getD, hrow]
        obtain ⟨bS, s, rfl, e2, e3, e4, e5, e6⟩ := HV.out.row v row hrow
        have k1 : wr.cell? ⟨d, o, none⟩ = some (.slice (some ⟨bS, 0, none⟩) G.length kS) := (h7.cell hd).trans c1
        have k2 : wr.cell? ⟨bS, v, none⟩ = some (.slice s.a s.n s.c) := (h7.cell (World.block_lt_of_cell? _ _ e4)).trans e4
        have hrl : row.length ≤ wt G := row_wt G v row hrow
        have EN : Hid (s.n = row.length) := e2
        have EO : Hid (outs G v = row) := orow
        have E6 : Hid (∀ (k x : Nat), row[k]? = some x → ∃ c, s.a = some ⟨c, 0, none⟩ ∧ w.cell? ⟨c, k, none⟩ = some (.int .i64 x)) := e6
        have hlen : (v :: Q1).length = Q1.length + 1 := rfl
        rw [hlen]
        rw [e2] at k2
        clear h0 h1 h2 h3 h4 h5 h6 h7 hne hsh hcp hrow orow e2 e3 e4 e5 e6 hlen
        go_upto_region 10 with fail
        go_cut [9] (fun t9 wx => wx = wr ∧ ∃ o1, t9 = .slice (some ⟨g, o1, none⟩) Q1.length (cp - 1) ∧ Win wr 3 g o1 Q1.length (cp - 1) (Q1.map nI))
        case first =>
          by_cases q : cp = 1
          · subst q
            go_wp2_with fail
            all_goals go_meet
            refine ⟨rfl, off, by rw [show Q1.length = 0 by omega], ?_⟩
            have := WNH.out
            simpa using this
          · go_wp2_with fail
            all_goals go_meet
            refine ⟨rfl, _, rfl, ?_⟩
            have := WNH.out
            rw [if_neg q] at this
            exact this
        case rest =>
          obtain ⟨rfl, o1, rfl, hw1⟩ := hcut
          have WN1 : Hid _ := hw1
          clear hw1 WNH cv
          go_wp2_with fail
          go_loopw [9, 51] (fun t9 t51 wx => ∃ (r : Nat) (Q : List Nat) (Pc : List Int) (g1 o2 c2 : Nat), r ≤ row.length ∧ t51 = .int .i64 r ∧ t9 = .slice (some ⟨g1, o2, none⟩) Q.length c2 ∧ BF G (fun z => cmp[z]? = some c) st (X ++ [v]) Q Pc ∧ BC G (fun z => cmp[z]? = some c) st X (X ++ [v] ++ Q) ∧ BR G (fun z => cmp[z]? = some c) st v r (X ++ [v] ++ Q) ∧ Sl wx 3 1 (some ⟨bP, 0, none⟩) G.length G.length [bP] (Pc.map iI) ∧ Win wx 3 g1 o2 Q.length c2 (Q.map nI) ∧ g1 ≠ bP ∧ w.heap.size ≤ g1 ∧ Below w.heap.size w wx) (fun _ u _ => row.length - (intOf u).toNat)
          case atStart => exact ⟨0, Q1, Pb, g, o1, cp - 1, by omega, rfl, rfl, BFH.out, BCH.out, BR.zero _ _, SPH.out, WN1.out, HGN.out.1, HGN.out.2, BLH.out⟩
          case round =>
            obtain ⟨r, Q, Pc, g1, o2, cp2, hr, rfl, rfl, h1, h2, h3, h4, h5, h6, h7, h8⟩ := hrel
            have BF2 : Hid _ := h1
            have BC2 : Hid (BC G (fun z => cmp[z]? = some c) st X (X ++ [v] ++ Q)) := h2
            have BR2 : Hid (BR G (fun z => cmp[z]? = some c) st v r (X ++ [v] ++ Q)) := h3
            have SP2 : Hid _ := h4
            have WN2 : Hid _ := h5
            have HG2 : Hid (g1 ≠ bP ∧ w.heap.size ≤ g1) := ⟨h6, h7⟩
            have BL2 : Hid (Below w.heap.size w wr) := h8
            have hsh := h1.short
            have hX2 : X.length + 1 + Q.length ≤ G.length := by simpa using hsh
            by_cases hrl2 : r < row.length
            · obtain ⟨x, hx⟩ := has_at row hrl2
              obtain ⟨bR, z1, z2⟩ := E6.out r x hx
              have z3 : wr.cell? ⟨bR, r, none⟩ = some (.int .i64 x) := (h8.cell (World.block_lt_of_cell? _ _ z2)).trans z2
              have hxo : (outs G v)[r]? = some x := by rw [EO.out]; exact hx
              have hxG : x < G.length := HG.out v x (List.mem_of_getElem? hxo)
              obtain ⟨cx, hcx⟩ := has_at cmp (k := x) (by rw [HCL.out]; exact hxG)
              have q1 : wr.cell? ⟨bC, x, none⟩ = some (.int .i64 cx) := (h8.cell (World.block_lt_of_cell? _ _ (HC.out x cx hcx))).trans (HC.out x cx hcx)
              have q2 : wr.cell? ⟨bC, st, none⟩ = some (.int .i64 c) := (h8.cell (World.block_lt_of_cell? _ _ (HC.out st c HCS.out))).trans (HC.out st c HCS.out)
              rw [z1]
              have HXO : Hid ((outs G v)[r]? = some x) := hxo
              have HCX : Hid (cmp[x]? = some cx) := hcx
              by_cases hcc : cx = c
              · subst hcc
                by_cases hxs : x = st
                · as_aux_lemma =>
                  have hin : v < G.length := hv
                  have HIV : Hid ((X ++ [v] ++ Q)[X.length]? = some v) := by
                    show (X ++ [v] ++ Q)[X.length]? = some v
                    simp
                  have HVS : Hid (st ∈ outs G v) := by have := List.mem_of_getElem? HXO.out; rw [hxs] at this; exact this
                  have hxs2 : (x : Int) = (st : Int) := by omega
                  clear h1 h2 h3 h4 h5 h6 h7 h8 hsh hx z1 z2 hxo hcx
                  go_upto_region 14 with fail
                  go_big_quiet (fail)
                  obtain ⟨W4, hW4⟩ : ∃ z : World, z = wr.drewN nq := ⟨_, rfl⟩
                  have SP4 : Hid (Sl W4 3 1 (some ⟨bP, 0, none⟩) G.length G.length [bP] (Pc.map iI)) := by rw [hW4]; exact SP2.out.keep (Upd.drewN [] _ _) (by simp)
                  have BL4 : Hid (Below w.heap.size w W4) := by rw [hW4]; exact BL2.out.trans ((Upd.drewN [] wr nq).below BL2.out.size (by simp))
                  rw [← hW4]
                  clear hW4
                  go_wp2_with fail
                  go_loopg [13, 14] X.length (fun mm t13 t14 wx => ∃ (pl : List Nat) (u : Nat) (vP : SV) (fP : List Nat), (X ++ [v] ++ Q)[mm]? = some u ∧ t13 = .slice vP.a vP.n vP.c ∧ t14 = .int .i64 u ∧ vP.n = pl.length ∧ Sl wx 3 1 vP.a vP.n vP.c fP (pl.map nI) ∧ (∀ k ∈ fP, W4.heap.size ≤ k) ∧ Lnk G (pl ++ [u]) ∧ (pl ++ [u])[0]? = some v ∧ (∀ a ∈ pl, a < G.length) ∧ pl.length + mm ≤ G.length ∧ Upd [] W4 wx)
                  case atStart => exact ⟨[], v, ⟨none, 0, 0⟩, [], HIV.out, rfl, rfl, rfl, Sl.empty _ _ _, by simp, fun k a b h1 h2 => by simp at h2, rfl, by simp, by simp; omega, Upd.refl _ _⟩
                  case round =>
                    obtain ⟨pl, u, vP, fP, i1, rfl, rfl, i2, i3, i4, i5, i6, i7, i8, i9⟩ := hrel
                    have I1 : Hid _ := i1
                    have I3 : Hid (Sl wr 3 1 vP.a vP.n vP.c fP (pl.map nI)) := i3
                    have I4 : Hid (∀ k ∈ fP, W4.heap.size ≤ k) := i4
                    have I5 : Hid (Lnk G (pl ++ [u])) := i5
                    have I6 : Hid ((pl ++ [u])[0]? = some v) := i6
                    have I7 : Hid (∀ a ∈ pl, a < G.length) := i7
                    have I9 : Hid (Upd [] W4 wr) := i9
                    have huG : u < G.length := (BF2.out.inn u (List.mem_of_getElem? i1)).1
                    have hu5 : u < 100000 := by omega
                    have hI2 : Hid (vP.n = pl.length) := i2
                    have hvn : vP.n < 1000000 := by omega
                    clear i2
                    by_cases hus : u = st
                    · as_aux_lemma =>
                      obtain ⟨gX, cX, w1, hrun', r1, r2, r3⟩ := run_append_one (P := Ybaz.prog) wr 83 83 3 8 slInts (by decide) vP.a vP.n vP.c fP _ i3 (.int .i64 (st : Int)) rfl (by omega)
                      have hrun : (Builtin.append_ #[83, 83] 83 #[.slice vP.a vP.n vP.c, .slice (some ⟨wr.heap.size, 0, none⟩) 1 1]).run Ybaz.prog (wr.alloc (.cells #[.int .i64 (st : Int)] 3)) = .ok (.slice (some ⟨gX, 0, none⟩) (vP.n + 1) cX) w1 := hrun'
                      have U1 : Hid (Upd [] W4 w1) := i9.trans r2 (fun k hk => .inr (i4 k hk))
                      have F1 : Hid (W4.heap.size ≤ gX) := by
                        have := i9.size
                        show W4.heap.size ≤ gX
                        rcases r3 with q | q
                        · exact i4 _ q
                        · omega
                      have CY : Hid (Cyc G st (pl ++ [st]).reverse) := by
                        rw [hus] at i5 i6
                        exact Cyc.of i5 i6 HVS.out (fun a ha => by
                          rcases List.mem_append.mp ha with ha | ha
                          · exact i7 a ha
                          · simp at ha; omega)
                      obtain ⟨L, hL⟩ : ∃ L, L = pl ++ [st] := ⟨_, rfl⟩
                      have hLl : L.length = vP.n + 1 := by rw [hL, hI2.out]; simp
                      have hLG : L.length ≤ G.length + 1 := by have := hI2.out; omega
                      have S1 : Hid (Sl w1 3 1 (some ⟨gX, 0, none⟩) L.length cX [gX] (L.map nI)) := by
                        show Sl _ _ _ _ _ _ _ _
                        rw [hLl, hL, List.map_append]; exact r1
                      rw [← hL] at CY
                      have B1 : Hid (Below w.heap.size w w1) := BL4.out.trans (U1.out.below BL4.out.size (by simp))
                      have hg1 : w.heap.size ≤ gX := by have := F1.out; have := BL4.out.size; omega
                      have ne1 : (u : Int) = (st : Int) := by omega
                      rw [← hLl] at hrun
                      have hLn : ((L.length : Int) - 1) = ((L.length - 1 : Nat) : Int) := by omega
                      clear i1 i3 i4 i5 i6 i7 i9 hrun' r1 r2 r3 hL
                      have HLL : Hid (L.length = vP.n + 1) := hLl
                      have hL0 : 0 < L.length := by omega
                      have hL9 : L.length < 1000000 := by omega
                      clear hLl
                      go_wp2_with fail
                      go_loopw [15, 16] (fun t15 t16 wx => ∃ (i j : Nat), t15 = .int .i64 i ∧ t16 = .int .i64 j ∧ i + j + 1 = L.length ∧ i ≤ j + 1 ∧ Sl wx 3 1 (some ⟨gX, 0, none⟩) L.length cX [gX] ((revI L i).map nI) ∧ Upd [gX] w1 wx) (fun a _ _ => L.length - (intOf a).toNat)
                      case atStart => exact ⟨0, L.length - 1, rfl, rfl, by omega, by omega, by rw [revI_zero]; exact S1.out, Upd.refl _ _⟩
                      case round =>
                        obtain ⟨i, j, rfl, rfl, a1, a2, a3, a4⟩ := hrel
                        have A3 : Hid _ := a3
                        have A4 : Hid (Upd [gX] w1 wr) := a4
                        by_cases hij : i < j
                        · as_aux_lemma =>
                          obtain ⟨m1, m2⟩ := revI_mid a1 hij
                          obtain ⟨x1, f1⟩ := sl_nat a3 m1
                          obtain ⟨x2, f2⟩ := sl_nat a3 m2
                          obtain ⟨va, hva⟩ : ∃ z, z = L.getD i 0 := ⟨_, rfl⟩
                          obtain ⟨vb, hvb⟩ : ∃ z, z = L.getD j 0 := ⟨_, rfl⟩
                          rw [← hva] at x1
                          rw [← hvb] at x2
                          have x3 : (wr.setCell ⟨gX, i, none⟩ (.int .i64 (vb : Int))).cell? ⟨gX, j, none⟩ = some (.int .i64 (vb : Int)) := set_other x2 (.inr (by omega))
                          have x4 : (wr.setCell ⟨gX, i, none⟩ (.int .i64 (vb : Int))).frozen? ⟨gX, j, none⟩ = false := set_free f2
                          have S5 : Hid (Sl ((wr.setCell ⟨gX, i, none⟩ (.int .i64 (vb : Int))).setCell ⟨gX, j, none⟩ (.int .i64 (va : Int))) 3 1 (some ⟨gX, 0, none⟩) L.length cX [gX] ((revI L (i + 1)).map nI)) := by
                            show Sl _ _ _ _ _ _ _ _
                            rw [← revI_step L i j a1 hij, ← hva, ← hvb]
                            exact sl_natPut (sl_natPut A3.out i vb) j va
                          have U5 : Hid (Upd [gX] w1 ((wr.setCell ⟨gX, i, none⟩ (.int .i64 (vb : Int))).setCell ⟨gX, j, none⟩ (.int .i64 (va : Int)))) := (A4.out.trans (Upd.store _ _ _ _) (fun k hk => .inl hk)).trans (Upd.store _ _ _ _) (fun k hk => .inl hk)
                          clear a3 a4 m1 m2 hva hvb
                          go_upto_region 25 with fail
                          go_big_region
                          all_goals go_wp2_with fail
                          have ej : ((j : Int) - 1) = ((j - 1 : Nat) : Int) := by omega
                          rw [ej]
                          exact ⟨⟨i + 1, j - 1, by go_num, rfl, by omega, by omega, S5.out.keep (Upd.drew [] _) (by simp), U5.out.trans (Upd.drew [] _) (by simp)⟩, by simp [intOf] <;> omega⟩
                        · as_aux_lemma =>
                          have hrev := revI_done L i j a1 hij a2
                          have A5 : Hid (Sl wr 3 1 (some ⟨gX, 0, none⟩) L.length cX [gX] (L.reverse.map nI)) := by rw [← hrev]; exact A3.out
                          clear a3 a4 hrev
                          go_wp2_with fail
                          go_ret
                          refine ⟨gX, cX, L.reverse, by simp, by rw [List.length_reverse]; exact A5.out, CY.out, by simp; exact hLG, hg1, ?_⟩
                          exact B1.out.trans (A4.out.below B1.out.size (by simp; exact hg1))
                    · as_aux_lemma =>
                      obtain ⟨j, p, j1, j2, j3, j4⟩ := BF2.out.par _ u i1 hus
                      obtain ⟨gX, cX, w1, hrun', r1, r2, r3⟩ := run_append_one (P := Ybaz.prog) wr 83 83 3 8 slInts (by decide) vP.a vP.n vP.c fP _ i3 (.int .i64 (u : Int)) rfl (by omega)
                      have hrun : (Builtin.append_ #[83, 83] 83 #[.slice vP.a vP.n vP.c, .slice (some ⟨wr.heap.size, 0, none⟩) 1 1]).run Ybaz.prog (wr.alloc (.cells #[.int .i64 (u : Int)] 3)) = .ok (.slice (some ⟨gX, 0, none⟩) (vP.n + 1) cX) w1 := hrun'
                      have U1 : Hid (Upd [] W4 w1) := i9.trans r2 (fun k hk => .inr (i4 k hk))
                      have F1 : Hid (∀ k ∈ [gX], W4.heap.size ≤ k) := fun k hk => by
                        simp at hk; subst hk
                        have := i9.size
                        rcases r3 with q | q
                        · exact i4 _ q
                        · omega
                      have S1 : Hid (Sl w1 3 1 (some ⟨gX, 0, none⟩) (vP.n + 1) cX [gX] ((pl ++ [u]).map nI)) := by
                        show Sl _ _ _ _ _ _ _ _
                        rw [List.map_append]; exact r1
                      have y1 := (sl_int (SP4.out.keep U1.out (by simp)) j3).1
                      have ne1 : ¬ ((u : Int) = (st : Int)) := by omega
                      have JL : Hid (j < _ ∧ (X ++ [v] ++ Q)[j]? = some p ∧ u ∈ outs G p) := ⟨j1, j2, j4⟩
                      clear i1 i3 i4 i5 i6 i7 i9 hrun' r1 r2 r3 j1 j2 j3 j4
                      go_wp2_with fail
                      go_roundg j
                      case measure => exact JL.out.1
                      case rel =>
                        refine ⟨pl ++ [u], p, ⟨some ⟨gX, 0, none⟩, vP.n + 1, cX⟩, [gX], JL.out.2.1, rfl, rfl, by simp [hI2.out], S1.out, F1.out, I5.out.snoc JL.out.2.2, ?_, fun a ha => ?_, by have := JL.out.1; simp; omega, U1.out⟩
                        · rw [List.getElem?_append_left (by simp)]; exact I6.out
                        · rcases List.mem_append.mp ha with ha | ha
                          · exact I7.out a ha
                          · simp at ha; subst ha; exact huG
                · as_aux_lemma =>
                  obtain ⟨pz, hpz⟩ := has_at Pc (k := x) (by rw [h1.len]; exact hxG)
                  obtain ⟨y1, y2⟩ := sl_int h4 hpz
                  have hd1 : (wr.drewN 0).heap.size = wr.heap.size := rfl
                  by_cases hpn : x ∈ X ++ [v] ++ Q
                  · obtain ⟨u, hu⟩ := (h1.mem x hxG).mp hpn
                    rw [hpz] at hu
                    injection hu with hu
                    have hge : ¬ pz < 0 := by omega
                    clear h1 h2 h3 h4 h5 h6 h7 h8 hsh hx z1 z2 hxo hcx hpz hu
                    go_upto_region 14 with fail
                    go_big_quiet (fail)
                    go_wp2_with fail
                    refine ⟨⟨r + 1, Q, Pc, g1, o2, cp2, by omega, by go_num, rfl, BF2.out, BC2.out, BR2.out.pass HXO.out (fun px => ⟨hxs, hpn⟩), SP2.out.keep (Upd.drewN [] _ _) (by simp), WN2.out.keep (Upd.drewN [] _ _) (by simp), HG2.out.1, HG2.out.2, BL2.out.trans ((Upd.drewN [] wr _).below BL2.out.size (by simp))⟩, by simp [intOf] <;> omega⟩
                  · have hpm := h1.neg x hxG hpn
                    rw [hpz] at hpm
                    injection hpm with hpm
                    subst hpm
                    clear h1 h2 h3 h4 h5 h6 h7 h8 hsh hx z1 z2 hxo hcx hpz
                    go_upto_region 14 with fail
                    go_big_quiet (fail)
                    have WN3 : Win ((wr.drewN nq).setCell ⟨bP, x, none⟩ (.int .i64 (v : Int))) 3 g1 o2 Q.length cp2 (Q.map nI) := (WN2.out.keep (Upd.drewN [] _ nq) (by simp)).keep (Upd.store _ bP x _) (by have := HG2.out.1; simpa using this)
                    obtain ⟨g3, o3, cp3, w3, hrun', r1, r2, r3⟩ := run_append_win (P := Ybaz.prog) _ 83 83 3 8 slInts (by decide) g1 o2 Q.length cp2 _ WN3 (.int .i64 (x : Int)) rfl (by omega)
                    have hrun : (Builtin.append_ #[83, 83] 83 #[.slice (some ⟨g1, o2, none⟩) Q.length cp2, .slice (some ⟨wr.heap.size, 0, none⟩) 1 1]).run Ybaz.prog (((wr.drewN nq).setCell ⟨bP, x, none⟩ (.int .i64 (v : Int))).alloc (.cells #[.int .i64 (x : Int)] 3)) = .ok (.slice (some ⟨g3, o3, none⟩) (Q.length + 1) cp3) w3 := by
                      have e : ((wr.drewN nq).setCell ⟨bP, x, none⟩ (.int .i64 (v : Int))).heap.size = wr.heap.size := by simp [World.setCell, World.drewN]
                      rw [← e]; exact hrun'
                    have SP3 : Sl ((wr.drewN nq).setCell ⟨bP, x, none⟩ (.int .i64 (v : Int))) 3 1 (some ⟨bP, 0, none⟩) G.length G.length [bP] ((Pc.set x (v : Int)).map iI) := sl_intPut (SP2.out.keep (Upd.drewN [] _ nq) (by simp)) x v
                    have sz3 : wr.heap.size ≤ ((wr.drewN nq).setCell ⟨bP, x, none⟩ (.int .i64 (v : Int))).heap.size := by simp [World.setCell, World.drewN]
                    have hbPg : bP < wr.heap.size := SP2.out.lt bP (by simp)
                    have SP4 : Hid (Sl w3 3 1 (some ⟨bP, 0, none⟩) G.length G.length [bP] ((Pc.set x (v : Int)).map iI)) := SP3.keep r2 (by have := HG2.out.1; simp; exact fun q => this q.symm)
                    have WN4 : Hid (Win w3 3 g3 o3 (Q ++ [x]).length cp3 ((Q ++ [x]).map nI)) := by
                      have := r1
                      rw [show (Q ++ [x]).length = Q.length + 1 by simp, show (Q ++ [x]).map nI = Q.map nI ++ [.int .i64 (x : Int)] by simp [nI]]
                      exact this
                    have HG4 : Hid (g3 ≠ bP ∧ w.heap.size ≤ g3) := by
                      have := HG2.out
                      have := BL2.out.size
                      rcases r3 with q | q
                      · rw [q]; exact HG2.out
                      · exact ⟨by omega, by omega⟩
                    have BL4 : Hid (Below w.heap.size w w3) := by
                      have U : Upd [bP, g1] wr w3 := (((Upd.drewN [] wr nq).mono (by simp)).trans ((Upd.store _ bP x _)) (by simp)).trans r2 (by simp)
                      exact BL2.out.trans (U.below BL2.out.size (by have := HBP.out; have := HG2.out.2; simp; omega))
                    have y3 : (wr.drewN nq).cell? ⟨bP, x, none⟩ = some (.int .i64 (-1)) := y1
                    have y4 : (wr.drewN nq).frozen? ⟨bP, x, none⟩ = false := y2
                    have ne1 : ¬ ((x : Int) = (st : Int)) := by omega
                    clear WN3 hrun' r1 r2 r3 SP3 sz3 hbPg y1 y2
                    go_wp2_with fail
                    refine ⟨⟨r + 1, Q ++ [x], Pc.set x (v : Int), g3, o3, cp3, by omega, by go_num, by simp, BF2.out.push (by simp) hxG HCX.out (List.mem_of_getElem? HXO.out) hpn, ?_, ?_, SP4.out, WN4.out, HG4.out.1, HG4.out.2, BL4.out⟩, by simp [intOf] <;> omega⟩
                    · rw [show X ++ [v] ++ (Q ++ [x]) = X ++ [v] ++ Q ++ [x] by simp]; exact BC2.out.grow
                    · rw [show X ++ [v] ++ (Q ++ [x]) = X ++ [v] ++ Q ++ [x] by simp]
                      exact BR2.out.grow.pass HXO.out (fun px => ⟨hxs, by simp⟩)
              · as_aux_lemma =>
                have hne : ¬ (cx == c) = true := by simpa using hcc
                clear h1 h2 h3 h4 h5 h6 h7 h8 hsh hx z1 z2 hxo hcx
                go_upto_region 14 with fail
                go_big_quiet (fail)
                go_wp2_with fail
                refine ⟨⟨r + 1, Q, Pc, g1, o2, cp2, by omega, by go_num, rfl, BF2.out, BC2.out, BR2.out.pass HXO.out (fun px => ?_), SP2.out.keep (Upd.drewN [] _ _) (by simp), WN2.out.keep (Upd.drewN [] _ _) (by simp), HG2.out.1, HG2.out.2, BL2.out.trans ((Upd.drewN [] wr _).below BL2.out.size (by simp))⟩, by simp [intOf] <;> omega⟩
                exfalso
                have := HCX.out
                rw [px] at this
                injection this with this
                exact hcc this.symm
            · as_aux_lemma =>
              have hr2 : r = row.length := by omega
              have BCN : Hid (BC G (fun z => cmp[z]? = some c) st (X ++ [v]) (X ++ [v] ++ Q)) := BC2.out.close (by rw [EO.out, ← hr2]; exact BR2.out)
              clear h1 h2 h3 h4 h5 h6 h7 h8 hsh
              go_wp2_with fail
              go_roundg (G.length - (X ++ [v]).length)
              case measure => have := MQ.out; simp; omega
              case rel => exact ⟨X ++ [v], Q, Pc, g1, o2, cp2, rfl, rfl, BF2.out, BCN.out, SP2.out, WN2.out, HG2.out.1, HG2.out.2, BL2.out⟩
end Go.Proofs.YbulkctquGreatFmt

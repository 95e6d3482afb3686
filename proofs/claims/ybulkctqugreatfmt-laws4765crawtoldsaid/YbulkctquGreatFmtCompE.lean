/-
  components, walked, over any graph.
-/
import Derived.Test.YbulkctquGreatFmtCompD
import Derived.Test.YbulkctquGreatFmtTjP
namespace Go.Proofs.YbulkctquGreatFmt
open Go.ChangeShapes Go.WideShapes Go.ChangeAt Go.RowKit Go.Ord
set_option linter.unusedVariables false
attribute [local go_sem ↓] Go.wp_at_zero Go.wp_at_succ

set_option maxHeartbeats 16000000 in
set_option maxRecDepth 100000 in
theorem comp15g (w : World) (d o : Nat) (G : List (List Nat)) (J : List Bool) (h : GrR w d o G J) (hτ : ∀ u, ∀ x ∈ outs G u, x < G.length) (hl : G.length < 100000) (hwt : wt G < 1000000) :
    Calls Ybaz.prog 15 #[.pointer (some ⟨d, o, none⟩)] w fun e w' => ∃ (vS : SV) (cmp : List Int) (siz fS : List Nat), e = .returned (.tuple #[.slice (some ⟨w.heap.size + 4, 0, none⟩) G.length G.length, .slice vS.a vS.n vS.c]) ∧
      Sl w' 3 1 (some ⟨w.heap.size + 4, 0, none⟩) G.length G.length [w.heap.size + 4] (cmp.map iI) ∧ Sl w' 3 1 vS.a vS.n vS.c fS (siz.map nI) ∧ Comp G cmp siz ∧ (∀ k ∈ fS, w.heap.size ≤ k) ∧ Below w.heap.size w w' := by
  obtain ⟨aS, kS, aJ, kJ, c1, c2, b1, b2, b4, b3⟩ := h.lies
  have hd : d < w.heap.size := World.block_lt_of_cell? _ _ c1
  have HV : Hid _ := b3
  have HT : Hid (∀ u, ∀ x ∈ outs G u, x < G.length) := hτ
  have hm := mkInts.made G.length G.length (Nat.le_refl _) (by omega) (by decide)
  have I0 : Hid _ := C0.first w G.length (by omega)
  clear h b3 b4 hτ
  go_enter Ybaz.func15, Ybaz.ntmps15
  go_wp2_with fail
  clear hm
  obtain ⟨W5, hW5⟩ : ∃ z : World, z = (((((w.alloc (.cells (zeros (.int .i64 0) G.length).toArray 3)).alloc (.cells #[.slice (some ⟨w.heap.size, 0, none⟩) G.length G.length] 83)).alloc (.cells (zeros (.int .i64 0) G.length).toArray 3)).alloc (.cells #[.slice (some ⟨w.heap.size + 1 + 1, 0, none⟩) G.length G.length] 83)).alloc (.cells (zeros (.int .i64 0) G.length).toArray 3)) := ⟨_, rfl⟩
  rw [← hW5] at I0 ⊢
  clear hW5
  rw [show w.heap.size + 1 + 1 + 1 + 1 = w.heap.size + 4 from rfl, show w.heap.size + 1 + 1 + 1 = w.heap.size + 3 from rfl, show w.heap.size + 1 + 1 = w.heap.size + 2 from rfl]
  go_loopw [33] (fun t33 wr => ∃ (i : Nat) (cmp : List Int), t33 = .int .i64 i ∧ i ≤ G.length ∧ C0 w wr G.length cmp ∧ ∀ y, y < i → cmp[y]? = some (-1)) (fun u _ => G.length - (intOf u).toNat)
  case atStart => exact ⟨0, _, rfl, by omega, I0.out, fun y hy => by omega⟩
  case round =>
    obtain ⟨i, cmp, rfl, h1, h2, h3⟩ := hrel
    have S1 : Hid _ := h2
    have N1 : Hid (∀ y, y < i → cmp[y]? = some (-1)) := h3
    clear h2 h3
    by_cases hlt : i < G.length
    · obtain ⟨g, e, _, _, cc, zz⟩ := S1.out.s2.has (by omega)
      injection e with e
      injection e with e
      subst e
      have hlc : cmp.length = G.length := by have := S1.out.s2.len; simpa using this
      obtain ⟨y, hy⟩ := has_at cmp (k := i) (by omega)
      have k1 := cc i (by omega)
      rw [show (cmp.map iI)[i]? = some (iI y) by simp [hy]] at k1
      have k2 := zz i
      unfold iI at k1
      clear cc zz hy hlc
      go_wp2_with fail
      refine ⟨⟨i + 1, cmp.set i (-1), by go_num, by omega, S1.out.put i (-1), fun y hy => ?_⟩, by simp [intOf] <;> omega⟩
      by_cases e : y = i
      · subst e
        have hlc : cmp.length = G.length := by have := S1.out.s2.len; simpa using this
        rw [List.getElem?_set_self (by omega)]
      · rw [List.getElem?_set_ne (Ne.symm e)]; exact N1.out y (by omega)
    · skip
      have hlc : Hid (cmp.length = G.length) := by
        have := S1.out.s2.len
        show cmp.length = G.length
        simpa using this
      obtain ⟨wq, hwq⟩ : ∃ z : World, z = wr := ⟨_, rfl⟩
      subst hwq
      have hz := S1.out.size
      have A0 : Hid (CA w (((wq.alloc (.cells #[.slice none 0 0] 83)).alloc (.cells #[.slice none 0 0] 148)).alloc (.cells #[.int .i64 0] 3)) G.length (List.replicate G.length 0) (List.replicate G.length 0) cmp [] [] 0 [] ⟨none, 0, 0⟩ [] [] []) := by
        obtain ⟨x1, e1⟩ : ∃ z : World, z = wq.alloc (.cells #[.slice none 0 0] 83) := ⟨_, rfl⟩
        obtain ⟨x2, e2⟩ : ∃ z : World, z = x1.alloc (.cells #[.slice none 0 0] 148) := ⟨_, rfl⟩
        obtain ⟨x3, e3⟩ : ∃ z : World, z = x2.alloc (.cells #[.int .i64 0] 3) := ⟨_, rfl⟩
        have y1 : x1.heap.size = w.heap.size + 6 := by rw [e1]; simp [hz]
        have y2 : x2.heap.size = w.heap.size + 7 := by rw [e2]; simp [y1]
        have y3 : x3.heap.size = w.heap.size + 8 := by rw [e3]; simp [y2]
        have v1 : Upd [] wq x1 := by rw [e1]; exact Upd.alloc _ _ _
        have v2 : Upd [] x1 x2 := by rw [e2]; exact Upd.alloc _ _ _
        have v3 : Upd [] x2 x3 := by rw [e3]; exact Upd.alloc _ _ _
        have V := (v1.trans v2 (by simp)).trans v3 (by simp)
        have b8 : Blk x1 (w.heap.size + 5) 83 #[.slice none 0 0] := by
          have := Blk.new wq #[.slice none 0 0] 83
          rw [← e1, hz] at this; exact this
        have b9 : Blk x2 (w.heap.size + 6) 148 #[.slice none 0 0] := by
          have := Blk.new x1 #[.slice none 0 0] 148
          rw [← e2, y1] at this; exact this
        have b10 : Blk x3 (w.heap.size + 7) 3 #[.int .i64 0] := by
          have := Blk.new x2 #[.int .i64 0] 3
          rw [← e3, y2] at this; exact this
        rw [← e1, ← e2, ← e3]
        have b8' := Blk.keep (Blk.keep b8 v2 (by simp)) v3 (by simp)
        have b9' := Blk.keep b9 v3 (by simp)
        have S := S1.out
        exact ⟨S.bel.trans (V.below S.bel.size (by simp)), V.cell S.c5 (by simp), V.cell S.c6 (by simp), S.s5.keep V (by simp), S.s6.keep V (by simp), S.s2.keep V (by simp), ⟨none, 0, b8'.cell 0, b8'.free 0, Sl.empty _ _ _, by simp⟩, ⟨none, 0, b9'.cell 0, b9'.free 0, Sl.empty _ _ _⟩, b10.cell 0, b10.free 0, Sl.empty _ _ _, by simp, by simp, by omega⟩
      go_wp2_with fail
      rw [show w.heap.size + 5 + 1 + 1 = w.heap.size + 7 from rfl, show w.heap.size + 5 + 1 = w.heap.size + 6 from rfl]
      obtain ⟨W8, hW8⟩ : ∃ z : World, z = (((wq.alloc (.cells #[.slice none 0 0] 83)).alloc (.cells #[.slice none 0 0] 148)).alloc (.cells #[.int .i64 0] 3)) := ⟨_, rfl⟩
      rw [← hW8] at A0 ⊢
      clear hW8 hz
      have CI0 : Hid (TJ G (List.replicate G.length 0) (List.replicate G.length 0) cmp [] [] (fun _ => 0) [] [] (fun x => (outs G x).length + 1)) := by
        refine TJ.start rfl (by simp) ?_
        refine List.ext_getElem? (fun y => ?_)
        by_cases hy : y < G.length
        · rw [N1.out y (by omega)]; simp [hy]
        · rw [List.getElem?_eq_none (by rw [hlc.out]; omega), List.getElem?_eq_none (by simp; omega)]
      clear hlt
      go_loopw [3, 42] (fun t3 t42 wr => ∃ (i : Nat) (vis low : List Nat) (cmp : List Int) (dn : Nat → Nat) (siz E : List Nat) (rem : Nat → Nat) (vS : SV) (f8 f9 fS : List Nat), t42 = .int .i64 i ∧ t3 = .slice vS.a vS.n vS.c ∧ i ≤ G.length ∧ CA w wr G.length vis low cmp [] [] E.length siz vS f8 f9 fS ∧ TJ G vis low cmp [] [] dn siz E rem ∧ ∀ x, x < i → x ∈ E) (fun _ u _ => G.length - (intOf u).toNat)
      case atStart => exact ⟨0, _, _, _, _, _, _, _, ⟨none, 0, 0⟩, _, _, _, rfl, rfl, by omega, A0.out, CI0.out, fun x hx => by omega⟩
      case round =>
        obtain ⟨i, vis, low, cmp, dn, siz, E, rem, vS, f8, f9, fS, rfl, rfl, h4, h5, h6, h7⟩ := hrel
        have A1 : Hid _ := h5
        have I1 : Hid _ := h6
        have R1 : Hid (∀ x, x < i → x ∈ E) := h7
        clear h5 h6 h7
        by_cases hi : i < G.length
        · have hi6 : i < 100000 := by omega
          have cv := (A1.out.gv hi).1
          have cb := A1.out.c5
          have vE := I1.out.vE i hi
          by_cases hE : i ∈ E
          · have hz9 : ¬ ((hg vis i : Nat) : Int) = 0 := by have := vE.2 hE; omega
            clear vE
            go_wp2_with fail
            refine ⟨⟨i + 1, vis, low, cmp, dn, siz, E, rem, vS, f8, f9, fS, by go_num, rfl, by omega, A1.out, I1.out, fun x hx => ?_⟩, by simp [intOf] <;> omega⟩
            by_cases e : x = i
            · subst e; exact hE
            · exact R1.out x (by omega)
          · have hz9 : hg vis i = 0 := by
              by_cases e : hg vis i = 0
              · exact e
              · exact absurd (vE.1 e) hE
            rw [hz9] at cv
            have EL := I1.out.Elen
            have I2 : Hid _ := I1.out.enterRoot hi hE
            clear vE hz9
            go_wp2_with fail
            refine (enter40 A1.out i hi (by omega) (by omega) (by simp) (by simp)).mono ?_
            rintro e w1 ⟨rfl, f8', f9', a2⟩
            have A2 : Hid (CA w w1 G.length (vis.set i (E.length + 1)) (low.set i (E.length + 1)) cmp [i] [(i, 0)] (E ++ [i]).length siz vS f8' f9' fS) := by
              show CA w w1 G.length (vis.set i (E.length + 1)) (low.set i (E.length + 1)) cmp [i] [(i, 0)] (E ++ [i]).length siz vS f8' f9' fS
              rw [List.length_append, List.length_singleton]; exact a2
            clear a2
            go_wp2_with fail
            go_loopg [3] (tot G rem) (fun g t3 wr => ∃ (vis low : List Nat) (cmp : List Int) (opn cn : List Nat) (dn : Nat → Nat) (siz E : List Nat) (rem : Nat → Nat) (vS : SV) (f8 f9 fS : List Nat), g = tot G rem ∧ t3 = .slice vS.a vS.n vS.c ∧ CA w wr G.length vis low cmp opn (cn.map (fun x => (x, dn x))) E.length siz vS f8 f9 fS ∧ TJ G vis low cmp opn cn dn siz E rem ∧ ∀ x, x ≤ i → x ∈ E)
            case atStart =>
              refine ⟨vis.set i (E.length + 1), low.set i (E.length + 1), cmp, [i], [i], dn, siz, E ++ [i], rem, vS, f8', f9', fS, rfl, rfl, ?_, I2.out, fun x hx => ?_⟩
              · have d0 := (I1.out.r2 i hi hE).2
                rw [show [i].map (fun x => (x, dn x)) = [(i, 0)] by simp [d0]]
                exact A2.out
              by_cases e : x = i
              · subst e; simp
              · simp [R1.out x (by omega)]
            case round =>
              obtain ⟨vis3, low3, cmp3, opn3, cn3, dn3, siz3, E3, rem3, vS3, g8, g9, gS, rfl, rfl, h5, h6, h7⟩ := hrel
              have A3 : Hid _ := h5
              have I3 : Hid _ := h6
              have R3 : Hid (∀ x, x ≤ i → x ∈ E3) := h7
              clear h7
              rcases List.eq_nil_or_concat cn3 with rfl | ⟨cs, v, rfl⟩
              · have o0 := h6.empty
                subst o0
                obtain ⟨a9, k9, y1, y2, y3⟩ := h5.o9
                simp only [List.map_nil, List.length_nil] at y1
                clear h5 h6 y3
                go_wp2_with fail
                exact ⟨⟨i + 1, vis3, low3, cmp3, dn3, siz3, E3, rem3, vS3, g8, g9, gS, by go_num, rfl, by omega, A3.out, I3.out, fun x hx => R3.out x (by omega)⟩, by simp [intOf] <;> omega⟩
              · rw [List.concat_eq_append] at h5 h6
                rw [List.map_append] at h5
                have A4 : Hid (CA w wr G.length vis3 low3 cmp3 opn3 (cs.map (fun x => (x, dn3 x)) ++ [(v, dn3 v)]) E3.length siz3 vS3 g8 g9 gS) := h5
                have I4 : Hid (TJ G vis3 low3 cmp3 opn3 (cs ++ [v]) dn3 siz3 E3 rem3) := h6
                obtain ⟨gg, c9, x1, x2, x3, x4, x5, x6, x7, x8, x9⟩ := CA.topc (v := v) (n := dn3 v) h5
                have tp := h6.top
                have hvN := tp.2.1
                obtain ⟨r, hr⟩ := has_at G hvN
                obtain ⟨b, s, q1, q2, q3, q4, q5, q6⟩ := HV.out.row v r hr
                have l1 := (h5.bel.cell (World.block_lt_of_cell? _ _ q4)).trans q4
                have l2 := (h5.bel.cell hd).trans c1
                rw [q1] at l2
                have hrl : r.length ≤ wt G := row_wt G v r hr
                have RO : Hid (outs G v = r) := by
                  show outs G v = r
                  simp [outs, hr]
                have fv := h6.dl v (by simp)
                rw [RO.out] at fv
                have RR : Hid (G[v]? = some r) := hr
                have Q6 : Hid _ := q6
                have Q2 : Hid (s.n = r.length) := q2
                have X1 : Hid (g9 = [gg]) := x1
                have hsn : s.n < 1000000 := by omega
                obtain ⟨n, hdn⟩ : ∃ n, n = dn3 v := ⟨_, rfl⟩
                have HD : Hid (n = dn3 v) := hdn
                rw [← hdn] at x5 x9 fv
                have A4n : Hid (CA w wr G.length vis3 low3 cmp3 opn3 (cs.map (fun x => (x, dn3 x)) ++ [(v, n)]) E3.length siz3 vS3 g8 g9 gS) := by rw [hdn]; exact h5
                have hnn : n ≤ s.n := by omega
                have hv7 : v < 100000 := by omega
                have VN : Hid (v ∉ cs) := fun hm => (tp.1 v hm).1 rfl
                have sh := h6.short
                have hcs : (cs.map (fun x => (x, dn3 x))).length < 100000 := by
                  have := sh.2
                  simp at this ⊢; omega
                have hop : opn3.length < 100000 := by have := sh.1; omega
                obtain ⟨mc, hmc⟩ : ∃ m, m = (cs.map (fun x => (x, dn3 x))).length := ⟨_, rfl⟩
                have MC : Hid (mc = (cs.map (fun x => (x, dn3 x))).length) := hmc
                rw [← hmc] at x2 x4 x5 x6 x7 hcs
                clear h5 h6 A3 I3 hr q6 q4 q2 q1 x1 x9 tp sh hdn hmc
                go_wp2_with fail
                by_cases hn : n < s.n
                · as_aux_lemma =>
                  obtain ⟨x, hx⟩ := has_at r (k := n) (by rw [← Q2.out]; exact hn)
                  obtain ⟨c, e1, e2⟩ := Q6.out n x hx
                  have e3 := (A4.out.bel.cell (World.block_lt_of_cell? _ _ e2)).trans e2
                  have OX : Hid ((outs G v)[dn3 v]? = some x) := by
                    show (outs G v)[dn3 v]? = some x
                    rw [RO.out, ← HD.out]; exact hx
                  have hxN := HT.out v x (by rw [RO.out]; exact List.mem_of_getElem? hx)
                  rw [e1] at l1
                  clear e1 e2 hx
                  have hx7 : x < 100000 := by omega
                  have hn6 : n < 1000000 := by omega
                  go_big_quiet (fail)
                  have a5 := A4n.out.draws (w' := wr.drewN nq) (Upd.drewN [] _ _)
                  obtain ⟨W1, hW1⟩ : ∃ z : World, z = wr.drewN nq := ⟨_, rfl⟩
                  have m2 : W1.cell? ⟨d, o, none⟩ = some (.slice (some ⟨b, 0, none⟩) G.length kS) := by rw [hW1]; exact l2
                  have m1 : W1.cell? ⟨b, v, none⟩ = some (.slice (some ⟨c, 0, none⟩) s.n s.c) := by rw [hW1]; exact l1
                  have m3 : W1.cell? ⟨c, n, none⟩ = some (.int .i64 x) := by rw [hW1]; exact e3
                  have m5 : W1.cell? ⟨gg, mc * 2 + 1, none⟩ = some (.int .i64 n) := by rw [hW1]; exact x5
                  have m6 : W1.frozen? ⟨gg, mc * 2 + 1, none⟩ = false := by rw [hW1]; exact x6
                  rw [← hW1] at a5 ⊢
                  have A5 : Hid _ := a5
                  clear a5 hW1 l1 l2 e3 x2 x3 x4 x5 x6
                  go_upto_region 23 with fail
                  go_big_quiet (fail)
                  have a6 := A5.out.draws (w' := W1.drewN nq) (Upd.drewN [] _ _)
                  obtain ⟨W2, hW2⟩ : ∃ z : World, z = W1.drewN nq := ⟨_, rfl⟩
                  have n5 : W2.cell? ⟨gg, mc * 2 + 1, none⟩ = some (.int .i64 n) := by rw [hW2]; exact m5
                  have n6 : W2.frozen? ⟨gg, mc * 2 + 1, none⟩ = false := by rw [hW2]; exact m6
                  rw [← hW2] at a6 ⊢
                  have a7 := CA.stepc (v := v) (n := n) a6 X1.out (n + 1)
                  rw [← MC.out] at a7
                  clear hW2 a6 m1 m2 m3 m5 m6 A5
                  go_upto_region 25 with fail
                  obtain ⟨W3, hW3⟩ : ∃ z : World, z = W2.setCell ⟨gg, mc * 2 + 1, none⟩ (.int .i64 ((n : Int) + 1)) := ⟨_, rfl⟩
                  rw [← hW3]
                  have a8 : CA w W3 G.length vis3 low3 cmp3 opn3 ((cs ++ [v]).map (fun x => (x, upd dn3 v (dn3 v + 1) x))) E3.length siz3 vS3 g8 g9 gS := by
                    rw [hW3, cal_map VN.out, ← HD.out]; exact a7
                  have A8 : Hid _ := a8
                  have st1 := I4.out.next (show dn3 v < (outs G v).length by rw [RO.out, ← Q2.out, ← HD.out]; exact hn)
                  have cv := (a8.gv hxN).1
                  have cb := a8.c5
                  have vE := I4.out.vE x hxN
                  clear hW3 a7 a8 n5 n6
                  by_cases hxE : x ∈ E3
                  · have hz9 : ¬ ((hg vis3 x : Nat) : Int) = 0 := by have := vE.2 hxE; omega
                    by_cases hxo : x ∈ opn3
                    · as_aux_lemma =>
                      have f1 := I4.out.c0 x hxN (.inl hxo)
                      have cc := (A8.out.gc f1).1
                      have IS : Hid _ := I4.out.seen OX.out hxo
                      have lu := A8.out.gl hvN
                      have lu1 := lu.1
                      have lu2 := lu.2
                      have cb6 := A8.out.c6
                      have hmin : min ((hg low3 v : Nat) : Int) ((hg vis3 x : Nat) : Int) = ((min (hg low3 v) (hg vis3 x) : Nat) : Int) := by omega
                      have hbl : w.heap.size + 8 ≤ W3.heap.size := A8.out.big
                      clear vE f1 lu
                      go_wp2_with fail
                      go_big_region
                      obtain ⟨W4, hW4⟩ : ∃ z : World, z = (W3.setCell ⟨w.heap.size + 2, v, none⟩ (.int .i64 ((min (hg low3 v) (hg vis3 x) : Nat) : Int))).drew := ⟨_, rfl⟩
                      rw [← hW4]
                      have a9 := (A8.out.setLow v (min (hg low3 v) (hg vis3 x))).draws (Upd.drew [] _)
                      unfold nI at a9
                      rw [← hW4] at a9
                      have A9 : Hid _ := a9
                      clear hW4 a9 lu1 lu2 cb cb6 cv cc hmin
                      go_wp2_with fail
                      go_roundg (tot G (upd rem3 v (rem3 v - 1)))
                      case measure => omega
                      case rel => exact ⟨vis3, _, cmp3, opn3, cs ++ [v], _, siz3, E3, _, vS3, g8, g9, gS, rfl, rfl, A9.out, IS.out, R3.out⟩
                    · have IS : Hid _ := I4.out.old OX.out hxE hxo
                      obtain ⟨c', f1, f2⟩ := I4.out.c1 x hxE hxo
                      have cc := (A8.out.gc f1).1
                      have hc0 : ¬ ((c' : Nat) : Int) < 0 := by omega
                      clear vE f1
                      go_wp2_with fail
                      go_roundg (tot G (upd rem3 v (rem3 v - 1)))
                      case measure => omega
                      case rel => exact ⟨vis3, low3, cmp3, opn3, cs ++ [v], _, siz3, E3, _, vS3, g8, g9, gS, rfl, rfl, A8.out, IS.out, R3.out⟩
                  · as_aux_lemma =>
                    have hz9 : hg vis3 x = 0 := by
                      by_cases e : hg vis3 x = 0
                      · exact e
                      · exact absurd (vE.1 e) hxE
                    rw [hz9] at cv
                    have EL := I4.out.Elen
                    have IE : Hid _ := I4.out.enterTop OX.out hxN hxE
                    have LC : Hid (((cs ++ [v]).map (fun x => (x, upd dn3 v (dn3 v + 1) x))).length < 1000000) := by
                      have := I4.out.short.2
                      show ((cs ++ [v]).map (fun x => (x, upd dn3 v (dn3 v + 1) x))).length < 1000000
                      rw [List.length_map]; omega
                    clear vE hz9
                    go_wp2_with fail
                    refine (enter40 A8.out x hxN (by omega) (by omega) (by omega) LC.out).mono ?_
                    rintro e w1 ⟨rfl, f8', f9', a9⟩
                    have d0 : upd dn3 v (dn3 v + 1) x = 0 := by
                      have e1 : x ≠ v := fun e => hxE (e ▸ I4.out.top.2.2.1)
                      simp only [upd, if_neg e1]
                      exact (I4.out.r2 x hxN hxE).2
                    have A9 : Hid (CA w w1 G.length (vis3.set x (E3.length + 1)) (low3.set x (E3.length + 1)) cmp3 (opn3 ++ [x]) ((cs ++ [v] ++ [x]).map (fun x => (x, upd dn3 v (dn3 v + 1) x))) (E3 ++ [x]).length siz3 vS3 f8' f9' gS) := by
                      show CA w w1 G.length (vis3.set x (E3.length + 1)) (low3.set x (E3.length + 1)) cmp3 (opn3 ++ [x]) ((cs ++ [v] ++ [x]).map (fun x => (x, upd dn3 v (dn3 v + 1) x))) (E3 ++ [x]).length siz3 vS3 f8' f9' gS
                      rw [List.length_append, List.length_singleton, List.map_append (l₂ := [x]), List.map_singleton, d0]; exact a9
                    clear a9 d0
                    go_wp2_with fail
                    go_roundg (tot G (upd rem3 v (rem3 v - 1)))
                    case measure => omega
                    case rel => exact ⟨_, _, cmp3, _, _, _, siz3, _, _, vS3, f8', f9', gS, rfl, rfl, A9.out, IE.out, fun y hy => by simp [R3.out y hy]⟩
                · as_aux_lemma =>
                  have hn2 : n = s.n := by omega
                  have hn3 : ¬ (n : Int) < (s.n : Int) := by omega
                  have DV : Hid ((outs G v).length ≤ dn3 v) := by
                    show (outs G v).length ≤ dn3 v
                    rw [RO.out, ← Q2.out, ← HD.out]; omega
                  obtain ⟨os, ts, k1, k2, k3⟩ := I4.out.split
                  have OS : Hid (opn3 = os ++ v :: ts) := k1
                  have TS : Hid (∀ x ∈ ts, hg vis3 v < hg vis3 x) := k3
                  clear hn2 k1 k2 k3
                  go_big_quiet (fail)
                  have a5 := A4n.out.draws (w' := wr.drewN nq) (Upd.drewN [] _ _)
                  obtain ⟨W1, hW1⟩ : ∃ z : World, z = wr.drewN nq := ⟨_, rfl⟩
                  have m2 : W1.cell? ⟨w.heap.size + 6, 0, none⟩ = some (.slice (some ⟨gg, 0, none⟩) (mc + 1) c9) := by rw [hW1]; exact x2
                  have m3 : W1.frozen? ⟨w.heap.size + 6, 0, none⟩ = false := by rw [hW1]; exact x3
                  rw [← hW1] at a5 ⊢
                  have a6 := CA.popc (v := v) (n := n) a5 X1.out (by rw [← MC.out]; exact m2)
                  rw [← MC.out] at a6
                  clear hW1 a5 l1 l2 x2 x3 x4 x5 x6
                  go_upto_region 30 with fail
                  obtain ⟨W2, hW2⟩ : ∃ z : World, z = W1.setCell ⟨w.heap.size + 6, 0, none⟩ (.slice (some ⟨gg, 0, none⟩) mc c9) := ⟨_, rfl⟩
                  rw [← hW2] at a6 ⊢
                  have A6 : Hid (CA w W2 G.length vis3 low3 cmp3 opn3 (cs.map (fun x => (x, dn3 x))) E3.length siz3 vS3 g8 g9 gS) := a6
                  clear hW2 a6 m2 m3
                  rcases List.eq_nil_or_concat cs with rfl | ⟨ds, u, rfl⟩
                  · as_aux_lemma =>
                    obtain ⟨a9, k9, y1, y2, y3⟩ := A6.out.o9
                    simp only [List.map_nil, List.length_nil] at y1
                    clear y3
                    go_wp2_with fail
                    have LV : Hid (hg low3 v = hg vis3 v) := I4.out.root
                    have gvv := (A6.out.gv hvN).1
                    have gll := (A6.out.gl hvN).1
                    rw [LV.out] at gll
                    have cb5 := A6.out.c5
                    have cb6 := A6.out.c6
                    go_big_quiet (fail)
                    have a7 := A6.out.draws (w' := W2.drewN nq) (Upd.drewN [] _ _)
                    obtain ⟨W4, hW4⟩ : ∃ z : World, z = W2.drewN nq := ⟨_, rfl⟩
                    rw [← hW4] at a7 ⊢
                    rw [OS.out] at a7
                    have A7 : Hid _ := a7
                    clear hW4 gvv gll cb5 cb6 a7
                    have I5 := I4.out
                    rw [OS.out] at I5
                    obtain ⟨LBt, LBm⟩ := TJ.label HT.out I5 DV.out LV.out
                    have IL : Hid _ := LBt
                    clear LBt
                    have hSl : Hid (vS3.n = siz3.length) := by
                      have := A7.out.sz.len
                      show vS3.n = siz3.length
                      simpa using this.symm
                    have hSn : vS3.n < 1000000000000 := by
                      have e1 := hSl.out
                      have e2 := I4.out.sl
                      have e3 := I4.out.Elen
                      omega
                    have TB : Hid (∀ x ∈ v :: ts, x < cmp3.length) := fun x hx => by
                      rw [I4.out.lc]
                      exact (I4.out.El x (I4.out.oE x (by rw [OS.out]; exact List.mem_append_right _ hx))).1
                    have hts : os.length + ts.length < 100000 := by
                      have e1 := I4.out.short.1
                      rw [OS.out] at e1
                      simp at e1
                      omega
                    go_wp2_with fail
                    go_loopw [18] (fun t18 wr => ∃ (us ps : List Nat) (cmpX : List Int), t18 = .int .i64 ps.length ∧ ts = us ++ ps ∧ (∀ y, cmpX[y]? = if y ∈ ps then some ((vS3.n : Nat) : Int) else cmp3[y]?) ∧ CA w wr G.length vis3 low3 cmpX (os ++ v :: us) (([] : List Nat).map (fun x => (x, dn3 x))) E3.length siz3 vS3 g8 g9 gS) (fun u _ => ts.length + 1 - (intOf u).toNat)
                    case atStart => exact ⟨ts, [], cmp3, rfl, by simp, fun y => by simp, A7.out⟩
                    case round =>
                      obtain ⟨us, ps, cmpX, rfl, k1, k2, k3⟩ := hrel
                      have K1 : Hid (ts = us ++ ps) := k1
                      have K2 : Hid (∀ y, cmpX[y]? = if y ∈ ps then some ((vS3.n : Nat) : Int) else cmp3[y]?) := k2
                      have K3 : Hid _ := k3
                      have hpl : ps.length + us.length = ts.length := by
                        have := congrArg List.length k1
                        simp at this; omega
                      clear k1 k2 k3
                      rcases List.eq_nil_or_concat us with rfl | ⟨us', t, rfl⟩
                      · obtain ⟨h8, c8, z1, z2, z3, z4, z5, z6, z7⟩ := K3.out.topo (os := os) (v := v)
                        have hlX : v < cmpX.length := by
                          have e1 : cmpX.length = G.length := by have := K3.out.s2.len; simpa using this
                          omega
                        obtain ⟨y0, hy0⟩ := has_at cmpX hlX
                        obtain ⟨z8, z9⟩ := K3.out.gc hy0
                        have a9 := (K3.out.popo z1 z2).setCmp v (vS3.n : Int)
                        have hlo8 : w.heap.size + 8 ≤ h8 := K3.out.lo h8 (by rw [z1]; simp)
                        have hlt4 : w.heap.size + 8 ≤ wr.heap.size := K3.out.big
                        obtain ⟨W6, hW6⟩ : ∃ z : World, z = (wr.setCell ⟨w.heap.size + 5, 0, none⟩ (.slice (some ⟨h8, 0, none⟩) os.length c8)).setCell ⟨w.heap.size + 4, v, none⟩ (.int .i64 (vS3.n : Int)) := ⟨_, rfl⟩
                        have a10 : CA w W6 G.length vis3 low3 (cmpX.set v (vS3.n : Int)) os (([] : List Nat).map (fun x => (x, dn3 x))) E3.length siz3 vS3 g8 g9 gS := by rw [hW6]; exact a9
                        have A9 : Hid _ := a10
                        clear z1 z7 a9 a10 hy0
                        have hol : os.length < 100000 := by omega
                        have hpn : ps.length < 100000 := by omega
                        go_upto_region 41 with fail
                        rw [← hW6]
                        clear hW6
                        go_wp2_with (first
                          | (at_builtin; refine wpList_append_one W6 _ (Upd.refl [] _) rfl (.tmp 181) (.tmp 183) 83 rfl 3 8 slInts (by decide) vS3.a vS3.n vS3.c gS (siz3.map nI) rfl A9.out.sz (by simp) _ rfl _ _ rfl (by simp) hSn ?_; intro gX cX w7 sX uX fX; have SX : Hid _ := sX; have UX : Hid _ := uX; have FX : Hid _ := fX; clear sX uX fX))
                        have a11 := A9.out.newSiz (w' := w7) (siz' := siz3 ++ [ps.length + 1]) (vS' := ⟨some ⟨gX, 0, none⟩, vS3.n + 1, cX⟩) (fS' := [gX]) (by simpa [nI] using SX.out) UX.out (fun k hk => by simp at hk; subst hk; exact FX.out) (by simp)
                        have tsp : ts = ps := by simpa using K1.out
                        have ce : cmpX.set v (vS3.n : Int) = lab (siz3.length : Int) cmp3 (v :: ts) := by
                          refine lab_eq TB.out (fun y => ?_)
                          rw [← hSl.out]
                          by_cases e : y = v
                          · subst e; rw [List.getElem?_set_self hlX]; simp
                          · rw [List.getElem?_set_ne (Ne.symm e), K2.out y, tsp]; simp [e]
                        go_roundg (tot G (upd rem3 v 0))
                        case measure => omega
                        case rel =>
                          refine ⟨vis3, low3, _, os, ([] : List Nat), dn3, _, E3, _, ⟨some ⟨gX, 0, none⟩, vS3.n + 1, cX⟩, g8, g9, [gX], rfl, rfl, ?_, IL.out, R3.out⟩
                          rw [← ce, tsp]
                          exact a11
                      · rw [List.concat_eq_append] at *
                        have k4 : CA w wr G.length vis3 low3 cmpX ((os ++ v :: us') ++ [t]) (([] : List Nat).map (fun x => (x, dn3 x))) E3.length siz3 vS3 g8 g9 gS := by
                          have := K3.out
                          rw [show os ++ v :: (us' ++ [t]) = (os ++ v :: us') ++ [t] by simp] at this
                          exact this
                        have K4 : Hid _ := k4
                        have htt : t ∈ ts := by rw [K1.out]; simp
                        have htN : t < G.length := by have := TB.out t (by simp [htt]); rw [I4.out.lc] at this; exact this
                        have htv : ¬ ((t : Nat) : Int) = ((v : Nat) : Int) := by
                          have := TS.out t htt
                          intro e
                          have e2 : t = v := by omega
                          subst e2; omega
                        obtain ⟨h8, c8, z1, z2, z3, z4, z5, z6, z7⟩ := k4.topo
                        have hlX : t < cmpX.length := by
                          have e1 : cmpX.length = G.length := by have := k4.s2.len; simpa using this
                          omega
                        obtain ⟨y0, hy0⟩ := has_at cmpX hlX
                        obtain ⟨z8, z9⟩ := k4.gc hy0
                        have a9 := (k4.popo z1 z2).setCmp t (vS3.n : Int)
                        have hlo8 : w.heap.size + 8 ≤ h8 := k4.lo h8 (by rw [z1]; simp)
                        have hlt4 : w.heap.size + 8 ≤ wr.heap.size := k4.big
                        have hol : (os ++ v :: us').length < 100000 := by simp at hpl ⊢; omega
                        have hpn : ps.length < 100000 := by omega
                        have A9 : Hid (CA w ((wr.setCell ⟨w.heap.size + 5, 0, none⟩ (.slice (some ⟨h8, 0, none⟩) (os ++ v :: us').length c8)).setCell ⟨w.heap.size + 4, t, none⟩ (.int .i64 (vS3.n : Int))) G.length vis3 low3 (cmpX.set t (vS3.n : Int)) (os ++ v :: us') (([] : List Nat).map (fun x => (x, dn3 x))) E3.length siz3 vS3 g8 g9 gS) := a9
                        have NB : Hid (∀ y, (cmpX.set t (vS3.n : Int))[y]? = if y ∈ t :: ps then some ((vS3.n : Nat) : Int) else cmp3[y]?) := by
                          intro y
                          by_cases e : y = t
                          · subst e; rw [List.getElem?_set_self hlX]; simp
                          · rw [List.getElem?_set_ne (Ne.symm e), K2.out y]; simp [e]
                        have T2 : Hid (ts = us' ++ (t :: ps)) := by
                          show ts = us' ++ (t :: ps)
                          rw [K1.out]; simp
                        obtain ⟨m8, hm8⟩ : ∃ m, m = (os ++ v :: us').length := ⟨_, rfl⟩
                        rw [← hm8] at z2 z4 z5 A9 hol
                        clear z1 z7 a9 hy0 k4 hm8
                        go_wp2_with fail
                        exact ⟨⟨us', t :: ps, _, by simp; try go_num, T2.out, NB.out, A9.out⟩, by simp [intOf] <;> omega⟩
                  · rw [List.concat_eq_append] at *
                    have hme := A6.out
                    rw [List.map_append] at hme
                    obtain ⟨g', c', w1, w2, w3, w4, w5, w6, w7, w8, w9⟩ := CA.topc (v := u) (n := dn3 u) hme
                    obtain ⟨md, hmd⟩ : ∃ m, m = (ds.map (fun x => (x, dn3 x))).length := ⟨_, rfl⟩
                    have huN : u < G.length := (I4.out.El u (I4.out.cE (by simp))).1
                    have hu7 : u < 100000 := by omega
                    have lu := A6.out.gl huN
                    have lw := A6.out.gl hvN
                    have lu1 := lu.1
                    have lu2 := lu.2
                    have lw1 := lw.1
                    have hmin : min ((hg low3 u : Nat) : Int) ((hg low3 v : Nat) : Int) = ((min (hg low3 u) (hg low3 v) : Nat) : Int) := by omega
                    have cb6 := A6.out.c6
                    have hds : (ds.map (fun x => (x, dn3 x))).length < 100000 := by have := MC.out; simp at this ⊢; omega
                    have G9 : Hid (w.heap.size + 8 ≤ g') := A6.out.lo g' (by rw [w1]; simp)
                    have hbl : w.heap.size + 8 ≤ W2.heap.size := A6.out.big
                    rw [← hmd] at w2 w4 w5 w6 w7 hds
                    clear w1 w9 lu lw hme hmd
                    go_wp2_with fail
                    go_big_region
                    obtain ⟨W3, hW3⟩ : ∃ z : World, z = (W2.setCell ⟨w.heap.size + 2, u, none⟩ (.int .i64 ((min (hg low3 u) (hg low3 v) : Nat) : Int))).drew := ⟨_, rfl⟩
                    rw [← hW3]
                    have a8 : CA w W3 G.length vis3 (low3.set u (min (hg low3 u) (hg low3 v))) cmp3 opn3 ((ds ++ [u]).map (fun x => (x, dn3 x))) E3.length siz3 vS3 g8 g9 gS := by
                      rw [hW3]; exact (A6.out.setLow u (min (hg low3 u) (hg low3 v))).draws (Upd.drew [] _)
                    have A8 : Hid _ := a8
                    clear hW3 a8 w2 w3 w4 w5 w6 w7 w8 lu1 lu2 lw1 hmin cb6
                    go_wp2_with fail
                    have huv : u ≠ v := (I4.out.top.1 u (by simp)).1
                    have LL : hg (low3.set u (min (hg low3 u) (hg low3 v))) v = hg low3 v := by
                      rw [hg_set low3 _ (by rw [I4.out.ll]; exact huN), if_neg (Ne.symm huv)]
                    have gvv := (A8.out.gv hvN).1
                    have gll := (A8.out.gl hvN).1
                    rw [LL] at gll
                    have cb5 := A8.out.c5
                    have cb6 := A8.out.c6
                    clear LL huv
                    by_cases hlv : hg low3 v = hg vis3 v
                    · as_aux_lemma =>
                      rw [hlv] at gll
                      have LV : Hid (hg low3 v = hg vis3 v) := hlv
                      clear hlv
                      go_big_quiet (fail)
                      have a7 := A8.out.draws (w' := W3.drewN nq) (Upd.drewN [] _ _)
                      obtain ⟨W4, hW4⟩ : ∃ z : World, z = W3.drewN nq := ⟨_, rfl⟩
                      rw [← hW4] at a7 ⊢
                      have lsame : low3.set u (min (hg low3 u) (hg low3 v)) = low3 := by
                        have e1 := (I4.out.top.1 u (by simp)).2
                        have e2 := I4.out.lw u (I4.out.co u (by simp))
                        have e3 := LV.out
                        rw [show min (hg low3 u) (hg low3 v) = hg low3 u by omega]
                        have hll : low3.length = G.length := I4.out.ll
                        rw [hg, List.getD_eq_getElem?_getD, List.getElem?_eq_getElem (by omega)]
                        exact List.set_getElem_self _
                      rw [OS.out, lsame] at a7
                      have A7 : Hid _ := a7
                      clear hW4 gvv gll cb5 cb6 a7 lsame
                      have I5 := I4.out
                      rw [OS.out] at I5
                      obtain ⟨LBt, LBm⟩ := TJ.label HT.out I5 DV.out LV.out
                      have IL : Hid _ := LBt
                      clear LBt
                      have hSl : Hid (vS3.n = siz3.length) := by
                        have := A7.out.sz.len
                        show vS3.n = siz3.length
                        simpa using this.symm
                      have hSn : vS3.n < 1000000000000 := by
                        have e1 := hSl.out
                        have e2 := I4.out.sl
                        have e3 := I4.out.Elen
                        omega
                      have TB : Hid (∀ x ∈ v :: ts, x < cmp3.length) := fun x hx => by
                        rw [I4.out.lc]
                        exact (I4.out.El x (I4.out.oE x (by rw [OS.out]; exact List.mem_append_right _ hx))).1
                      have hts : os.length + ts.length < 100000 := by
                        have e1 := I4.out.short.1
                        rw [OS.out] at e1
                        simp at e1
                        omega
                      go_wp2_with fail
                      go_loopw [18] (fun t18 wr => ∃ (us ps : List Nat) (cmpX : List Int), t18 = .int .i64 ps.length ∧ ts = us ++ ps ∧ (∀ y, cmpX[y]? = if y ∈ ps then some ((vS3.n : Nat) : Int) else cmp3[y]?) ∧ CA w wr G.length vis3 low3 cmpX (os ++ v :: us) ((ds ++ [u]).map (fun x => (x, dn3 x))) E3.length siz3 vS3 g8 g9 gS) (fun u _ => ts.length + 1 - (intOf u).toNat)
                      case atStart => exact ⟨ts, [], cmp3, rfl, by simp, fun y => by simp, A7.out⟩
                      case round =>
                        obtain ⟨us, ps, cmpX, rfl, k1, k2, k3⟩ := hrel
                        have K1 : Hid (ts = us ++ ps) := k1
                        have K2 : Hid (∀ y, cmpX[y]? = if y ∈ ps then some ((vS3.n : Nat) : Int) else cmp3[y]?) := k2
                        have K3 : Hid _ := k3
                        have hpl : ps.length + us.length = ts.length := by
                          have := congrArg List.length k1
                          simp at this; omega
                        clear k1 k2 k3
                        rcases List.eq_nil_or_concat us with rfl | ⟨us', t, rfl⟩
                        · obtain ⟨h8, c8, z1, z2, z3, z4, z5, z6, z7⟩ := K3.out.topo (os := os) (v := v)
                          have hlX : v < cmpX.length := by
                            have e1 : cmpX.length = G.length := by have := K3.out.s2.len; simpa using this
                            omega
                          obtain ⟨y0, hy0⟩ := has_at cmpX hlX
                          obtain ⟨z8, z9⟩ := K3.out.gc hy0
                          have a9 := (K3.out.popo z1 z2).setCmp v (vS3.n : Int)
                          have hlo8 : w.heap.size + 8 ≤ h8 := K3.out.lo h8 (by rw [z1]; simp)
                          have hlt4 : w.heap.size + 8 ≤ wr.heap.size := K3.out.big
                          obtain ⟨W6, hW6⟩ : ∃ z : World, z = (wr.setCell ⟨w.heap.size + 5, 0, none⟩ (.slice (some ⟨h8, 0, none⟩) os.length c8)).setCell ⟨w.heap.size + 4, v, none⟩ (.int .i64 (vS3.n : Int)) := ⟨_, rfl⟩
                          have a10 : CA w W6 G.length vis3 low3 (cmpX.set v (vS3.n : Int)) os ((ds ++ [u]).map (fun x => (x, dn3 x))) E3.length siz3 vS3 g8 g9 gS := by rw [hW6]; exact a9
                          have A9 : Hid _ := a10
                          clear z1 z7 a9 a10 hy0
                          have hol : os.length < 100000 := by omega
                          have hpn : ps.length < 100000 := by omega
                          go_upto_region 41 with fail
                          rw [← hW6]
                          clear hW6
                          go_wp2_with (first
                            | (at_builtin; refine wpList_append_one W6 _ (Upd.refl [] _) rfl (.tmp 181) (.tmp 183) 83 rfl 3 8 slInts (by decide) vS3.a vS3.n vS3.c gS (siz3.map nI) rfl A9.out.sz (by simp) _ rfl _ _ rfl (by simp) hSn ?_; intro gX cX w7 sX uX fX; have SX : Hid _ := sX; have UX : Hid _ := uX; have FX : Hid _ := fX; clear sX uX fX))
                          have a11 := A9.out.newSiz (w' := w7) (siz' := siz3 ++ [ps.length + 1]) (vS' := ⟨some ⟨gX, 0, none⟩, vS3.n + 1, cX⟩) (fS' := [gX]) (by simpa [nI] using SX.out) UX.out (fun k hk => by simp at hk; subst hk; exact FX.out) (by simp)
                          have tsp : ts = ps := by simpa using K1.out
                          have ce : cmpX.set v (vS3.n : Int) = lab (siz3.length : Int) cmp3 (v :: ts) := by
                            refine lab_eq TB.out (fun y => ?_)
                            rw [← hSl.out]
                            by_cases e : y = v
                            · subst e; rw [List.getElem?_set_self hlX]; simp
                            · rw [List.getElem?_set_ne (Ne.symm e), K2.out y, tsp]; simp [e]
                          go_roundg (tot G (upd rem3 v 0))
                          case measure => omega
                          case rel =>
                            refine ⟨vis3, low3, _, os, (ds ++ [u]), dn3, _, E3, _, ⟨some ⟨gX, 0, none⟩, vS3.n + 1, cX⟩, g8, g9, [gX], rfl, rfl, ?_, IL.out, R3.out⟩
                            rw [← ce, tsp]
                            exact a11
                        · rw [List.concat_eq_append] at *
                          have k4 : CA w wr G.length vis3 low3 cmpX ((os ++ v :: us') ++ [t]) ((ds ++ [u]).map (fun x => (x, dn3 x))) E3.length siz3 vS3 g8 g9 gS := by
                            have := K3.out
                            rw [show os ++ v :: (us' ++ [t]) = (os ++ v :: us') ++ [t] by simp] at this
                            exact this
                          have K4 : Hid _ := k4
                          have htt : t ∈ ts := by rw [K1.out]; simp
                          have htN : t < G.length := by have := TB.out t (by simp [htt]); rw [I4.out.lc] at this; exact this
                          have htv : ¬ ((t : Nat) : Int) = ((v : Nat) : Int) := by
                            have := TS.out t htt
                            intro e
                            have e2 : t = v := by omega
                            subst e2; omega
                          obtain ⟨h8, c8, z1, z2, z3, z4, z5, z6, z7⟩ := k4.topo
                          have hlX : t < cmpX.length := by
                            have e1 : cmpX.length = G.length := by have := k4.s2.len; simpa using this
                            omega
                          obtain ⟨y0, hy0⟩ := has_at cmpX hlX
                          obtain ⟨z8, z9⟩ := k4.gc hy0
                          have a9 := (k4.popo z1 z2).setCmp t (vS3.n : Int)
                          have hlo8 : w.heap.size + 8 ≤ h8 := k4.lo h8 (by rw [z1]; simp)
                          have hlt4 : w.heap.size + 8 ≤ wr.heap.size := k4.big
                          have hol : (os ++ v :: us').length < 100000 := by simp at hpl ⊢; omega
                          have hpn : ps.length < 100000 := by omega
                          have A9 : Hid (CA w ((wr.setCell ⟨w.heap.size + 5, 0, none⟩ (.slice (some ⟨h8, 0, none⟩) (os ++ v :: us').length c8)).setCell ⟨w.heap.size + 4, t, none⟩ (.int .i64 (vS3.n : Int))) G.length vis3 low3 (cmpX.set t (vS3.n : Int)) (os ++ v :: us') ((ds ++ [u]).map (fun x => (x, dn3 x))) E3.length siz3 vS3 g8 g9 gS) := a9
                          have NB : Hid (∀ y, (cmpX.set t (vS3.n : Int))[y]? = if y ∈ t :: ps then some ((vS3.n : Nat) : Int) else cmp3[y]?) := by
                            intro y
                            by_cases e : y = t
                            · subst e; rw [List.getElem?_set_self hlX]; simp
                            · rw [List.getElem?_set_ne (Ne.symm e), K2.out y]; simp [e]
                          have T2 : Hid (ts = us' ++ (t :: ps)) := by
                            show ts = us' ++ (t :: ps)
                            rw [K1.out]; simp
                          obtain ⟨m8, hm8⟩ : ∃ m, m = (os ++ v :: us').length := ⟨_, rfl⟩
                          rw [← hm8] at z2 z4 z5 A9 hol
                          clear z1 z7 a9 hy0 k4 hm8
                          go_wp2_with fail
                          exact ⟨⟨us', t :: ps, _, by simp; try go_num, T2.out, NB.out, A9.out⟩, by simp [intOf] <;> omega⟩
                    · have hlv2 : ¬ ((hg low3 v : Nat) : Int) = ((hg vis3 v : Nat) : Int) := by omega
                      have KP := I4.out.keep DV.out hlv
                      have km := KP.2
                      have IK : Hid _ := KP.1
                      clear KP hlv
                      go_big_quiet (fail)
                      have a7 := A8.out.draws (w' := W3.drewN nq) (Upd.drewN [] _ _)
                      obtain ⟨W4, hW4⟩ : ∃ z : World, z = W3.drewN nq := ⟨_, rfl⟩
                      rw [← hW4] at a7 ⊢
                      have A7 : Hid _ := a7
                      clear hW4 gvv gll cb5 cb6 a7
                      go_wp2_with fail
                      go_roundg (tot G (upd rem3 v 0))
                      case measure => omega
                      case rel => exact ⟨vis3, _, cmp3, opn3, ds ++ [u], dn3, siz3, E3, _, vS3, g8, g9, gS, rfl, rfl, A7.out, IK.out, R3.out⟩
        · have hi2 : i = G.length := by omega
          have R2 : Hid (∀ x, x < G.length → x ∈ E) := fun x hx => R1.out x (by omega)
          clear hi2
          go_wp2_with fail
          go_ret2
          exact ⟨vS, cmp, siz, fS, rfl, A1.out.s2, A1.out.sz, I1.out.final R2.out, fun k hk => by have := A1.out.lo k (A1.out.mS hk); omega, A1.out.bel⟩
end Go.Proofs.YbulkctquGreatFmt

/-
  components, walked, over a graph whose arcs all go forward.
-/
import Derived.Test.YbulkctquGreatFmtCompC
import Derived.Deep.LoopGhost
import Derived.BigQuiet
namespace Go.Proofs.YbulkctquGreatFmt
open Go.ChangeShapes Go.WideShapes Go.ChangeAt Go.RowKit Go.Ord
set_option linter.unusedVariables false
attribute [local go_sem ↓] Go.wp_at_zero Go.wp_at_succ

/-- While comp is filled. -/
structure C0 (w0 w : World) (N : Nat) (cmp : List Int) : Prop where
  bel : Below w0.heap.size w0 w
  c5 : w.cell? ⟨w0.heap.size + 1, 0, none⟩ = some (.slice (some ⟨w0.heap.size, 0, none⟩) N N)
  c6 : w.cell? ⟨w0.heap.size + 3, 0, none⟩ = some (.slice (some ⟨w0.heap.size + 2, 0, none⟩) N N)
  s5 : Sl w 3 1 (some ⟨w0.heap.size, 0, none⟩) N N [w0.heap.size] ((List.replicate N 0).map nI)
  s6 : Sl w 3 1 (some ⟨w0.heap.size + 2, 0, none⟩) N N [w0.heap.size + 2] ((List.replicate N 0).map nI)
  s2 : Sl w 3 1 (some ⟨w0.heap.size + 4, 0, none⟩) N N [w0.heap.size + 4] (cmp.map iI)
  size : w.heap.size = w0.heap.size + 5
theorem C0.put {w0 w : World} {N : Nat} {cmp : List Int} (h : C0 w0 w N cmp) (i : Nat) (x : Int) : C0 w0 (w.setCell ⟨w0.heap.size + 4, i, none⟩ (iI x)) N (cmp.set i x) := by
  have hu := Upd.store w (w0.heap.size + 4) i (iI x)
  have s := h.s2.store i (iI x)
  rw [← List.map_set] at s
  exact ⟨h.bel.trans (hu.below h.bel.size (by simp)), hu.cell h.c5 (by simp), hu.cell h.c6 (by simp), h.s5.keep hu (by simp), h.s6.keep hu (by simp), s, by simpa [World.setCell] using h.size⟩
theorem C0.first (w : World) (N : Nat) (hN : N < 1000000) : C0 w (((((w.alloc (.cells (zeros (.int .i64 0) N).toArray 3)).alloc (.cells #[.slice (some ⟨w.heap.size, 0, none⟩) N N] 83)).alloc (.cells (zeros (.int .i64 0) N).toArray 3)).alloc (.cells #[.slice (some ⟨w.heap.size + 1 + 1, 0, none⟩) N N] 83)).alloc (.cells (zeros (.int .i64 0) N).toArray 3)) N (List.replicate N 0) := by
  have e0 : zeros (.int .i64 0) N = (List.replicate N 0).map nI := by rw [zeros_one _ rfl, List.map_replicate]; rfl
  have e1 : (List.replicate N (0 : Int)).map iI = (List.replicate N 0).map nI := by rw [List.map_replicate, List.map_replicate]; rfl
  obtain ⟨w1, h1⟩ : ∃ z : World, z = w.alloc (.cells (zeros (.int .i64 0) N).toArray 3) := ⟨_, rfl⟩
  obtain ⟨w2, h2⟩ : ∃ z : World, z = w1.alloc (.cells #[.slice (some ⟨w.heap.size, 0, none⟩) N N] 83) := ⟨_, rfl⟩
  obtain ⟨w3, h3⟩ : ∃ z : World, z = w2.alloc (.cells (zeros (.int .i64 0) N).toArray 3) := ⟨_, rfl⟩
  obtain ⟨w4, h4⟩ : ∃ z : World, z = w3.alloc (.cells #[.slice (some ⟨w.heap.size + 1 + 1, 0, none⟩) N N] 83) := ⟨_, rfl⟩
  obtain ⟨w5, h5⟩ : ∃ z : World, z = w4.alloc (.cells (zeros (.int .i64 0) N).toArray 3) := ⟨_, rfl⟩
  have z1 : w1.heap.size = w.heap.size + 1 := by rw [h1]; simp
  have z2 : w2.heap.size = w.heap.size + 2 := by rw [h2]; simp [z1]
  have z3 : w3.heap.size = w.heap.size + 3 := by rw [h3]; simp [z2]
  have z4 : w4.heap.size = w.heap.size + 4 := by rw [h4]; simp [z3]
  have z5 : w5.heap.size = w.heap.size + 5 := by rw [h5]; simp [z4]
  have u2 : Upd [] w1 w2 := by rw [h2]; exact Upd.alloc _ _ _
  have u3 : Upd [] w2 w3 := by rw [h3]; exact Upd.alloc _ _ _
  have u4 : Upd [] w3 w4 := by rw [h4]; exact Upd.alloc _ _ _
  have u5 : Upd [] w4 w5 := by rw [h5]; exact Upd.alloc _ _ _
  have q1 := Sl.made w 3 (.int .i64 0) 1 N N (Nat.le_refl _) hN
  have q3 := Sl.made w2 3 (.int .i64 0) 1 N N (Nat.le_refl _) hN
  have q5 := Sl.made w4 3 (.int .i64 0) 1 N N (Nat.le_refl _) hN
  rw [Nat.mul_one] at q1 q3 q5
  rw [← h1] at q1
  rw [← h3, z2] at q3
  rw [← h5, z4] at q5
  have b2 : Blk w2 (w.heap.size + 1) 83 #[.slice (some ⟨w.heap.size, 0, none⟩) N N] := by
    have := Blk.new w1 #[.slice (some ⟨w.heap.size, 0, none⟩) N N] 83
    rw [← h2, z1] at this; exact this
  have b4 : Blk w4 (w.heap.size + 3) 83 #[.slice (some ⟨w.heap.size + 2, 0, none⟩) N N] := by
    have := Blk.new w3 #[.slice (some ⟨w.heap.size + 1 + 1, 0, none⟩) N N] 83
    rw [← h4, z3] at this; exact this
  rw [← h1, ← h2, ← h3, ← h4, ← h5]
  rw [e0] at q1 q3 q5
  refine ⟨?_, (((Blk.keep (Blk.keep (Blk.keep b2 u3 (by simp)) u4 (by simp)) u5 (by simp)))).cell 0, (Blk.keep b4 u5 (by simp)).cell 0, (((q1.keep u2 (by simp)).keep u3 (by simp)).keep u4 (by simp)).keep u5 (by simp), (q3.keep u4 (by simp)).keep u5 (by simp), by rw [e1]; exact q5, z5⟩
  have u1 : Upd [] w w1 := by rw [h1]; exact Upd.alloc _ _ _
  have U := (((u1.trans u2 (by simp)).trans u3 (by simp)).trans u4 (by simp)).trans u5 (by simp)
  exact U.below (Nat.le_refl _) (by simp)

set_option maxHeartbeats 16000000 in
set_option maxRecDepth 100000 in
theorem comp15 (w : World) (d o : Nat) (G : List (List Nat)) (J : List Bool) (h : GrR w d o G J) (τ : Nat → Nat) (hτ : ∀ u r, G[u]? = some r → ∀ x ∈ r, x < G.length ∧ τ u < τ x) (hl : G.length < 100000) (hwt : wt G < 1000000) :
    Calls Ybaz.prog 15 #[.pointer (some ⟨d, o, none⟩)] w fun e w' => ∃ (vS : SV) (cmp : List Int) (siz fS : List Nat), e = .returned (.tuple #[.slice (some ⟨w.heap.size + 4, 0, none⟩) G.length G.length, .slice vS.a vS.n vS.c]) ∧
      Sl w' 3 1 (some ⟨w.heap.size + 4, 0, none⟩) G.length G.length [w.heap.size + 4] (cmp.map iI) ∧ Sl w' 3 1 vS.a vS.n vS.c fS (siz.map nI) ∧ (∀ x, x < G.length → ∃ c : Nat, cmp[x]? = some (c : Int) ∧ c < siz.length) ∧ (∀ s ∈ siz, s = 1) ∧ (∀ k ∈ fS, w.heap.size ≤ k) ∧ Below w.heap.size w w' := by
  obtain ⟨aS, kS, aJ, kJ, c1, c2, b1, b2, b4, b3⟩ := h.lies
  have hd : d < w.heap.size := World.block_lt_of_cell? _ _ c1
  have HV : Hid _ := b3
  have HT : Hid _ := hτ
  have hm := mkInts.made G.length G.length (Nat.le_refl _) (by omega) (by decide)
  have I0 : Hid _ := C0.first w G.length (by omega)
  clear h b3 b4 hτ
  go_enter Ybaz.func15, Ybaz.ntmps15
  go_wp2_with fail
  clear hm
  obtain ⟨W5, hW5⟩ : ∃ z : World, z = (((((w.alloc (.cells (zeros (.int .i64 0) G.length).toArray 3)).alloc (.cells #[.slice (some ⟨w.heap.size, 0, none⟩) G.length G.length] 83)).alloc (.cells (zeros (.int .i64 0) G.length).toArray 3)).alloc (.cells #[.slice (some ⟨w.heap.size + 1 + 1, 0, none⟩) G.length G.length] 83)).alloc (.cells (zeros (.int .i64 0) G.length).toArray 3)) := ⟨_, rfl⟩
  rw [← hW5] at I0 ⊢
  clear hW5
  rw [show w.heap.size + 1 + 1 + 1 + 1 = w.heap.size + 4 from rfl, show w.heap.size + 1 + 1 + 1 = w.heap.size + 3 from rfl, show w.heap.size + 1 + 1 = w.heap.size + 2 from rfl]
  go_loopw [33] (fun t33 wr => ∃ (i : Nat) (cmp : List Int), t33 = .int .i64 i ∧ i ≤ G.length ∧ C0 w wr G.length cmp) (fun u _ => G.length - (intOf u).toNat)
  case atStart => exact ⟨0, _, rfl, by omega, I0.out⟩
  case round =>
    obtain ⟨i, cmp, rfl, h1, h2⟩ := hrel
    have S1 : Hid _ := h2
    clear h2
    by_cases hlt : i < G.length
    · obtain ⟨g, e, _, _, cc, zz⟩ := S1.out.s2.has (by omega)
      injection e with e
      injection e with e
      subst e
      have hlc : cmp.length = G.length := by have := S1.out.s2.len; simpa using this
      obtain ⟨y, hy⟩ := has_at cmp (k := i) (by omega)
      have k1 := cc i (by omega)
      rw [show (cmp.map iI)[i]? = some (iI y) by simp [hy]] at k1
      have k2 := zz i
      unfold iI at k1
      clear cc zz hy hlc
      go_wp2_with fail
      exact ⟨⟨i + 1, cmp.set i (-1), by go_num, by omega, S1.out.put i (-1)⟩, by simp [intOf] <;> omega⟩
    · skip
      have hlc : Hid (cmp.length = G.length) := by
        have := S1.out.s2.len
        show cmp.length = G.length
        simpa using this
      obtain ⟨wq, hwq⟩ : ∃ z : World, z = wr := ⟨_, rfl⟩
      subst hwq
      have hz := S1.out.size
      have A0 : Hid (CA w (((wq.alloc (.cells #[.slice none 0 0] 83)).alloc (.cells #[.slice none 0 0] 148)).alloc (.cells #[.int .i64 0] 3)) G.length (List.replicate G.length 0) (List.replicate G.length 0) cmp [] [] 0 [] ⟨none, 0, 0⟩ [] [] []) := by
        obtain ⟨x1, e1⟩ : ∃ z : World, z = wq.alloc (.cells #[.slice none 0 0] 83) := ⟨_, rfl⟩
        obtain ⟨x2, e2⟩ : ∃ z : World, z = x1.alloc (.cells #[.slice none 0 0] 148) := ⟨_, rfl⟩
        obtain ⟨x3, e3⟩ : ∃ z : World, z = x2.alloc (.cells #[.int .i64 0] 3) := ⟨_, rfl⟩
        have y1 : x1.heap.size = w.heap.size + 6 := by rw [e1]; simp [hz]
        have y2 : x2.heap.size = w.heap.size + 7 := by rw [e2]; simp [y1]
        have y3 : x3.heap.size = w.heap.size + 8 := by rw [e3]; simp [y2]
        have v1 : Upd [] wq x1 := by rw [e1]; exact Upd.alloc _ _ _
        have v2 : Upd [] x1 x2 := by rw [e2]; exact Upd.alloc _ _ _
        have v3 : Upd [] x2 x3 := by rw [e3]; exact Upd.alloc _ _ _
        have V := (v1.trans v2 (by simp)).trans v3 (by simp)
        have b8 : Blk x1 (w.heap.size + 5) 83 #[.slice none 0 0] := by
          have := Blk.new wq #[.slice none 0 0] 83
          rw [← e1, hz] at this; exact this
        have b9 : Blk x2 (w.heap.size + 6) 148 #[.slice none 0 0] := by
          have := Blk.new x1 #[.slice none 0 0] 148
          rw [← e2, y1] at this; exact this
        have b10 : Blk x3 (w.heap.size + 7) 3 #[.int .i64 0] := by
          have := Blk.new x2 #[.int .i64 0] 3
          rw [← e3, y2] at this; exact this
        rw [← e1, ← e2, ← e3]
        have b8' := Blk.keep (Blk.keep b8 v2 (by simp)) v3 (by simp)
        have b9' := Blk.keep b9 v3 (by simp)
        have S := S1.out
        exact ⟨S.bel.trans (V.below S.bel.size (by simp)), V.cell S.c5 (by simp), V.cell S.c6 (by simp), S.s5.keep V (by simp), S.s6.keep V (by simp), S.s2.keep V (by simp), ⟨none, 0, b8'.cell 0, b8'.free 0, Sl.empty _ _ _, by simp⟩, ⟨none, 0, b9'.cell 0, b9'.free 0, Sl.empty _ _ _⟩, b10.cell 0, b10.free 0, Sl.empty _ _ _, by simp, by simp, by omega⟩
      go_wp2_with fail
      rw [show w.heap.size + 5 + 1 + 1 = w.heap.size + 7 from rfl, show w.heap.size + 5 + 1 = w.heap.size + 6 from rfl]
      obtain ⟨W8, hW8⟩ : ∃ z : World, z = (((wq.alloc (.cells #[.slice none 0 0] 83)).alloc (.cells #[.slice none 0 0] 148)).alloc (.cells #[.int .i64 0] 3)) := ⟨_, rfl⟩
      rw [← hW8] at A0 ⊢
      clear hW8 hz
      have CI0 : Hid (CI G τ (List.replicate G.length 0) (List.replicate G.length 0) cmp [] [] [] (fun x => (outs G x).length + 1)) := CI.start rfl (by simp) hlc.out
      clear hlt
      go_loopw [3, 42] (fun t3 t42 wr => ∃ (i : Nat) (vis low : List Nat) (cmp : List Int) (siz E : List Nat) (rem : Nat → Nat) (vS : SV) (f8 f9 fS : List Nat), t42 = .int .i64 i ∧ t3 = .slice vS.a vS.n vS.c ∧ i ≤ G.length ∧ CA w wr G.length vis low cmp [] [] E.length siz vS f8 f9 fS ∧ CI G τ vis low cmp [] siz E rem ∧ ∀ x, x < i → x ∈ E) (fun _ u _ => G.length - (intOf u).toNat)
      case atStart => exact ⟨0, _, _, _, _, _, _, ⟨none, 0, 0⟩, _, _, _, rfl, rfl, by omega, A0.out, CI0.out, fun x hx => by omega⟩
      case round =>
        obtain ⟨i, vis, low, cmp, siz, E, rem, vS, f8, f9, fS, rfl, rfl, h4, h5, h6, h7⟩ := hrel
        have A1 : Hid _ := h5
        have I1 : Hid _ := h6
        have R1 : Hid (∀ x, x < i → x ∈ E) := h7
        clear h5 h6 h7
        by_cases hi : i < G.length
        · have hi6 : i < 100000 := by omega
          have cv := (A1.out.gv hi).1
          have cb := A1.out.c5
          have vE := I1.out.vE i hi
          by_cases hE : i ∈ E
          · have hz9 : ¬ ((hg vis i : Nat) : Int) = 0 := by have := vE.2 hE; omega
            clear vE
            go_wp2_with fail
            refine ⟨⟨i + 1, vis, low, cmp, siz, E, rem, vS, f8, f9, fS, by go_num, rfl, by omega, A1.out, I1.out, fun x hx => ?_⟩, by simp [intOf] <;> omega⟩
            by_cases e : x = i
            · subst e; exact hE
            · exact R1.out x (by omega)
          · have hz9 : hg vis i = 0 := by
              by_cases e : hg vis i = 0
              · exact e
              · exact absurd (vE.1 e) hE
            rw [hz9] at cv
            have EL := I1.out.Elen
            have I2 : Hid _ := I1.out.enter hi hE (by simp)
            clear vE hz9
            go_wp2_with fail
            refine (enter40 A1.out i hi (by omega) (by omega) (by simp) (by simp)).mono ?_
            rintro e w1 ⟨rfl, f8', f9', a2⟩
            have A2 : Hid (CA w w1 G.length (vis.set i (E.length + 1)) (low.set i (E.length + 1)) cmp [i] [(i, 0)] (E ++ [i]).length siz vS f8' f9' fS) := by
              show CA w w1 G.length (vis.set i (E.length + 1)) (low.set i (E.length + 1)) cmp [i] [(i, 0)] (E ++ [i]).length siz vS f8' f9' fS
              rw [List.length_append, List.length_singleton]; exact a2
            clear a2
            go_wp2_with fail
            go_loopg [3] (tot G rem) (fun g t3 wr => ∃ (vis low : List Nat) (cmp : List Int) (cal : List (Nat × Nat)) (siz E : List Nat) (rem : Nat → Nat) (vS : SV) (f8 f9 fS : List Nat), g = tot G rem ∧ t3 = .slice vS.a vS.n vS.c ∧ CA w wr G.length vis low cmp (cal.map Prod.fst) cal E.length siz vS f8 f9 fS ∧ CI G τ vis low cmp cal siz E rem ∧ ∀ x, x ≤ i → x ∈ E)
            case atStart =>
              refine ⟨_, _, _, [(i, 0)], _, _, _, vS, _, _, _, rfl, rfl, A2.out, I2.out, fun x hx => ?_⟩
              by_cases e : x = i
              · subst e; simp
              · simp [R1.out x (by omega)]
            case round =>
              obtain ⟨vis3, low3, cmp3, cal3, siz3, E3, rem3, vS3, g8, g9, gS, rfl, rfl, h5, h6, h7⟩ := hrel
              have A3 : Hid _ := h5
              have I3 : Hid _ := h6
              have R3 : Hid (∀ x, x ≤ i → x ∈ E3) := h7
              clear h7
              rcases List.eq_nil_or_concat cal3 with rfl | ⟨cs, ⟨v, n⟩, rfl⟩
              · obtain ⟨a9, k9, y1, y2, y3⟩ := h5.o9
                simp only [List.length_nil] at y1
                clear h5 h6 y3
                go_wp2_with fail
                exact ⟨⟨i + 1, vis3, low3, cmp3, siz3, E3, rem3, vS3, g8, g9, gS, by go_num, rfl, by omega, A3.out, I3.out, fun x hx => R3.out x (by omega)⟩, by simp [intOf] <;> omega⟩
              · rw [List.concat_eq_append] at h5 h6
                have A4 : Hid (CA w wr G.length vis3 low3 cmp3 ((cs ++ [(v, n)]).map Prod.fst) (cs ++ [(v, n)]) E3.length siz3 vS3 g8 g9 gS) := h5
                have I4 : Hid (CI G τ vis3 low3 cmp3 (cs ++ [(v, n)]) siz3 E3 rem3) := h6
                obtain ⟨gg, c9, x1, x2, x3, x4, x5, x6, x7, x8, x9⟩ := h5.topc
                have tp := h6.top
                have hvN := tp.2.1
                obtain ⟨r, hr⟩ := has_at G hvN
                obtain ⟨b, s, q1, q2, q3, q4, q5, q6⟩ := HV.out.row v r hr
                have l1 := (h5.bel.cell (World.block_lt_of_cell? _ _ q4)).trans q4
                have l2 := (h5.bel.cell hd).trans c1
                rw [q1] at l2
                have hrl : r.length ≤ wt G := row_wt G v r hr
                have RO : Hid (outs G v = r) := by
                  show outs G v = r
                  simp [outs, hr]
                have fv := h6.fr (v, n) (by simp)
                simp only [RO.out] at fv
                have RR : Hid (G[v]? = some r) := hr
                have Q6 : Hid _ := q6
                have Q2 : Hid (s.n = r.length) := q2
                have X1 : Hid (g9 = [gg]) := x1
                have hsn : s.n < 1000000 := by omega
                have hnn : n ≤ s.n := by omega
                have hv7 : v < 100000 := by omega
                have hcs : cs.length < 100000 := by
                  have e1 : ((cs ++ [(v, n)]).map Prod.fst).Nodup := by
                    have := h6.ts
                    refine (List.pairwise_map.2 (this.imp ?_))
                    intro p q hpq e
                    rw [e] at hpq; omega
                  have e2 := nodup_len G.length _ e1 (fun y hy => by
                    obtain ⟨p, hp, rfl⟩ := List.mem_map.mp hy
                    exact (h6.El _ (h6.cE p hp)).1)
                  simp at e2; omega
                clear h5 h6 A3 I3 hr q6 q4 q2 q1 x1 x9 tp
                go_wp2_with fail
                by_cases hn : n < s.n
                · obtain ⟨x, hx⟩ := has_at r (k := n) (by rw [← Q2.out]; exact hn)
                  obtain ⟨c, e1, e2⟩ := Q6.out n x hx
                  have e3 := (A4.out.bel.cell (World.block_lt_of_cell? _ _ e2)).trans e2
                  have hx2 := HT.out v r RR.out x (List.mem_of_getElem? hx)
                  have hxN := hx2.1
                  have TX : Hid (τ v < τ x) := hx2.2
                  rw [e1] at l1
                  clear e1 e2 hx hx2
                  have hx7 : x < 100000 := by omega
                  have hn6 : n < 1000000 := by omega
                  go_big_quiet (fail)
                  have a5 := A4.out.draws (w' := wr.drewN nq) (Upd.drewN [] _ _)
                  obtain ⟨W1, hW1⟩ : ∃ z : World, z = wr.drewN nq := ⟨_, rfl⟩
                  have m2 : W1.cell? ⟨d, o, none⟩ = some (.slice (some ⟨b, 0, none⟩) G.length kS) := by rw [hW1]; exact l2
                  have m1 : W1.cell? ⟨b, v, none⟩ = some (.slice (some ⟨c, 0, none⟩) s.n s.c) := by rw [hW1]; exact l1
                  have m3 : W1.cell? ⟨c, n, none⟩ = some (.int .i64 x) := by rw [hW1]; exact e3
                  have m5 : W1.cell? ⟨gg, cs.length * 2 + 1, none⟩ = some (.int .i64 n) := by rw [hW1]; exact x5
                  have m6 : W1.frozen? ⟨gg, cs.length * 2 + 1, none⟩ = false := by rw [hW1]; exact x6
                  rw [← hW1] at a5 ⊢
                  have A5 : Hid _ := a5
                  clear a5 hW1 l1 l2 e3 x2 x3 x4 x5 x6
                  go_upto_region 23 with fail
                  go_big_quiet (fail)
                  have a6 := A5.out.draws (w' := W1.drewN nq) (Upd.drewN [] _ _)
                  obtain ⟨W2, hW2⟩ : ∃ z : World, z = W1.drewN nq := ⟨_, rfl⟩
                  have n5 : W2.cell? ⟨gg, cs.length * 2 + 1, none⟩ = some (.int .i64 n) := by rw [hW2]; exact m5
                  have n6 : W2.frozen? ⟨gg, cs.length * 2 + 1, none⟩ = false := by rw [hW2]; exact m6
                  rw [← hW2] at a6 ⊢
                  have a7 := a6.stepc X1.out (n + 1)
                  clear hW2 a6 m1 m2 m3 m5 m6 A5
                  go_upto_region 25 with fail
                  obtain ⟨W3, hW3⟩ : ∃ z : World, z = W2.setCell ⟨gg, cs.length * 2 + 1, none⟩ (.int .i64 ((n : Int) + 1)) := ⟨_, rfl⟩
                  rw [← hW3]
                  have a8 : CA w W3 G.length vis3 low3 cmp3 ((cs ++ [(v, n + 1)]).map Prod.fst) (cs ++ [(v, n + 1)]) E3.length siz3 vS3 g8 g9 gS := by
                    rw [hW3]
                    have e9 : (cs ++ [(v, n + 1)]).map Prod.fst = (cs ++ [(v, n)]).map Prod.fst := by simp
                    rw [e9]; exact a7
                  have A8 : Hid _ := a8
                  have ST := I4.out.step (show n < (outs G v).length by rw [RO.out, ← Q2.out]; exact hn)
                  have st1 := ST.2
                  have IS : Hid _ := ST.1
                  have cv := (a8.gv hxN).1
                  have cb := a8.c5
                  have vE := I4.out.vE x hxN
                  clear hW3 a7 a8 n5 n6 ST
                  by_cases hxE : x ∈ E3
                  · have hz9 : ¬ ((hg vis3 x : Nat) : Int) = 0 := by have := vE.2 hxE; omega
                    obtain ⟨c', f1, f2⟩ := I4.out.arc TX.out hxE
                    have cc := (A8.out.gc f1).1
                    have hc0 : ¬ ((c' : Nat) : Int) < 0 := by omega
                    clear vE f1
                    go_wp2_with fail
                    go_roundg (tot G (upd rem3 v (rem3 v - 1)))
                    case measure => omega
                    case rel => exact ⟨vis3, low3, cmp3, cs ++ [(v, n + 1)], siz3, E3, _, vS3, g8, g9, gS, rfl, rfl, A8.out, IS.out, R3.out⟩
                  · have hz9 : hg vis3 x = 0 := by
                      by_cases e : hg vis3 x = 0
                      · exact e
                      · exact absurd (vE.1 e) hxE
                    rw [hz9] at cv
                    have EL := I4.out.Elen
                    have IE : Hid _ := IS.out.enter hxN hxE (IS.out.above TX.out)
                    clear vE hz9
                    go_wp2_with fail
                    refine (enter40 A8.out x hxN (by omega) (by omega) (by simp; omega) (by simp; omega)).mono ?_
                    rintro e w1 ⟨rfl, f8', f9', a9⟩
                    have A9 : Hid (CA w w1 G.length (vis3.set x (E3.length + 1)) (low3.set x (E3.length + 1)) cmp3 ((cs ++ [(v, n + 1)] ++ [(x, 0)]).map Prod.fst) (cs ++ [(v, n + 1)] ++ [(x, 0)]) (E3 ++ [x]).length siz3 vS3 f8' f9' gS) := by
                      show CA w w1 G.length (vis3.set x (E3.length + 1)) (low3.set x (E3.length + 1)) cmp3 ((cs ++ [(v, n + 1)] ++ [(x, 0)]).map Prod.fst) (cs ++ [(v, n + 1)] ++ [(x, 0)]) (E3 ++ [x]).length siz3 vS3 f8' f9' gS
                      rw [List.length_append, List.length_singleton, List.map_append (l₂ := [(x, 0)])]; exact a9
                    clear a9
                    go_wp2_with fail
                    go_roundg (tot G (upd rem3 v (rem3 v - 1)))
                    case measure => omega
                    case rel => exact ⟨_, _, cmp3, _, siz3, _, _, vS3, f8', f9', gS, rfl, rfl, A9.out, IE.out, fun y hy => by simp [R3.out y hy]⟩
                · have hn2 : n = s.n := by omega
                  have hn3 : ¬ (n : Int) < (s.n : Int) := by omega
                  have PO := I4.out.pop (show (outs G v).length ≤ n by rw [RO.out, ← Q2.out]; omega)
                  have po1 := PO.2
                  have IP : Hid _ := PO.1
                  have LV : Hid (hg low3 v = hg vis3 v) := I4.out.lo (v, n) (by simp)
                  have NV : Hid (∀ p ∈ cs, hg vis3 p.1 < hg vis3 v) := fun p hp => (I4.out.top.1 p hp).2.2
                  clear hn2 PO
                  go_big_quiet (fail)
                  have a5 := A4.out.draws (w' := wr.drewN nq) (Upd.drewN [] _ _)
                  obtain ⟨W1, hW1⟩ : ∃ z : World, z = wr.drewN nq := ⟨_, rfl⟩
                  have m2 : W1.cell? ⟨w.heap.size + 6, 0, none⟩ = some (.slice (some ⟨gg, 0, none⟩) (cs.length + 1) c9) := by rw [hW1]; exact x2
                  have m3 : W1.frozen? ⟨w.heap.size + 6, 0, none⟩ = false := by rw [hW1]; exact x3
                  rw [← hW1] at a5 ⊢
                  have a6 := a5.popc X1.out m2
                  clear hW1 a5 l1 l2 x2 x3 x4 x5 x6
                  go_upto_region 30 with fail
                  obtain ⟨W2, hW2⟩ : ∃ z : World, z = W1.setCell ⟨w.heap.size + 6, 0, none⟩ (.slice (some ⟨gg, 0, none⟩) cs.length c9) := ⟨_, rfl⟩
                  rw [← hW2] at a6 ⊢
                  rw [List.map_append] at a6
                  have A6 : Hid (CA w W2 G.length vis3 low3 cmp3 (cs.map Prod.fst ++ [v]) cs E3.length siz3 vS3 g8 g9 gS) := a6
                  clear hW2 a6 m2 m3
                  rcases List.eq_nil_or_concat cs with rfl | ⟨ds, ⟨u, m⟩, rfl⟩
                  · obtain ⟨a9, k9, y1, y2, y3⟩ := A6.out.o9
                    simp only [List.length_nil] at y1
                    clear y3
                    go_wp2_with fail
                    have gvv := (A6.out.gv hvN).1
                    have gll := (A6.out.gl hvN).1
                    rw [LV.out] at gll
                    have cb5 := A6.out.c5
                    have cb6 := A6.out.c6
                    go_big_quiet (fail)
                    have a7 := A6.out.draws (w' := W2.drewN nq) (Upd.drewN [] _ _)
                    obtain ⟨W4, hW4⟩ : ∃ z : World, z = W2.drewN nq := ⟨_, rfl⟩
                    rw [← hW4] at a7 ⊢
                    clear hW4 gvv gll cb5 cb6
                    obtain ⟨h8, c8, z1, z2, z3, z4, z5, z6, z7⟩ := a7.topo
                    have lc3 : cmp3.length = G.length := I4.out.lc
                    obtain ⟨y0, hy0⟩ := has_at cmp3 (k := v) (by omega)
                    obtain ⟨z8, z9⟩ := a7.gc hy0
                    have a9 := (a7.popo z1 z2).setCmp v (vS3.n : Int)
                    have hSl : Hid (vS3.n = siz3.length) := by
                      have := a7.sz.len
                      show vS3.n = siz3.length
                      simpa using this.symm
                    have hSn : vS3.n < 1000000000000 := by
                      have e1 := hSl.out
                      have e2 := I4.out.sl
                      have e3 := I4.out.Elen
                      omega
                    simp only [List.map_nil, List.length_nil, Nat.zero_add] at z2 z4 z5 a9
                    have hlo8 : w.heap.size + 8 ≤ h8 := a7.lo h8 (by rw [z1]; simp)
                    have hlt4 : w.heap.size + 8 ≤ W4.heap.size := a7.big
                    obtain ⟨W6, hW6⟩ : ∃ z : World, z = (W4.setCell ⟨w.heap.size + 5, 0, none⟩ (.slice (some ⟨h8, 0, none⟩) 0 c8)).setCell ⟨w.heap.size + 4, v, none⟩ (.int .i64 (vS3.n : Int)) := ⟨_, rfl⟩
                    have a10 : CA w W6 G.length vis3 low3 (cmp3.set v (vS3.n : Int)) [] [] E3.length siz3 vS3 g8 g9 gS := by rw [hW6]; exact a9
                    have A9 : Hid _ := a10
                    clear z1 z7 a7 a9 a10 hy0 lc3
                    go_wp2_with fail
                    refine wp_loop_once ?_
                    go_upto_region 41 with fail
                    rw [← hW6]
                    clear hW6
                    go_wp2_with (first
                      | (at_builtin; refine wpList_append_one W6 _ (Upd.refl [] _) rfl (.tmp 181) (.tmp 183) 83 rfl 3 8 slInts (by decide) vS3.a vS3.n vS3.c gS (siz3.map nI) rfl A9.out.sz (by simp) _ rfl _ _ rfl (by simp) hSn ?_; intro gX cX w7 sX uX fX; have SX : Hid _ := sX; have UX : Hid _ := uX; have FX : Hid _ := fX; clear sX uX fX))
                    have a11 := A9.out.newSiz (w' := w7) (siz' := siz3 ++ [1]) (vS' := ⟨some ⟨gX, 0, none⟩, vS3.n + 1, cX⟩) (fS' := [gX]) (by simpa [nI] using SX.out) UX.out (fun k hk => by simp at hk; subst hk; exact FX.out) (by simp)
                    rw [hSl.out] at a11
                    go_roundg (tot G (upd rem3 v 0))
                    case measure => omega
                    case rel => exact ⟨vis3, low3, cmp3.set v (siz3.length : Int), [], siz3 ++ [1], E3, _, ⟨some ⟨gX, 0, none⟩, vS3.n + 1, cX⟩, g8, g9, [gX], rfl, rfl, by rw [hSl.out]; exact a11, IP.out, R3.out⟩
                  · rw [List.concat_eq_append] at *
                    obtain ⟨g', c', w1, w2, w3, w4, w5, w6, w7, w8, w9⟩ := A6.out.topc
                    have huN : u < G.length := (I4.out.El u (I4.out.cE (u, m) (by simp))).1
                    have hu7 : u < 100000 := by omega
                    have lu := A6.out.gl huN
                    have lw := A6.out.gl hvN
                    have lu1 := lu.1
                    have lu2 := lu.2
                    have lw1 := lw.1
                    have LU : hg low3 u = hg vis3 u := I4.out.lo (u, m) (by simp)
                    have NU := NV.out (u, m) (by simp)
                    simp only at NU
                    have hmin : min ((hg low3 u : Nat) : Int) ((hg low3 v : Nat) : Int) = ((hg low3 u : Nat) : Int) := by
                      have := LV.out
                      omega
                    have cb6 := A6.out.c6
                    have hds : ds.length < 100000 := by simp at hcs; omega
                    have G9 : Hid (w.heap.size + 8 ≤ g') := A6.out.lo g' (by rw [w1]; simp)
                    clear w1 w9 lu lw LU NU
                    go_wp2_with fail
                    go_big_region
                    obtain ⟨W3, hW3⟩ : ∃ z : World, z = (W2.setCell ⟨w.heap.size + 2, u, none⟩ (.int .i64 ((hg low3 u : Nat) : Int))).drew := ⟨_, rfl⟩
                    rw [← hW3]
                    have a8 : CA w W3 G.length vis3 low3 cmp3 ((ds ++ [(u, m)]).map Prod.fst ++ [v]) (ds ++ [(u, m)]) E3.length siz3 vS3 g8 g9 gS := by
                      have e1 := (A6.out.setLow u (hg low3 u)).draws (Upd.drew [] _)
                      have e2 : low3.set u (hg low3 u) = low3 := by
                        have hll : low3.length = G.length := I4.out.ll
                        rw [hg, List.getD_eq_getElem?_getD, List.getElem?_eq_getElem (by omega)]
                        exact List.set_getElem_self _
                      rw [e2] at e1
                      rw [hW3]; exact e1
                    have A8 : Hid _ := a8
                    clear hW3 a8 w2 w3 w4 w5 w6 w7 w8 lu1 lu2 lw1 hmin cb6
                    go_wp2_with fail
                    have gvv := (A8.out.gv hvN).1
                    have gll := (A8.out.gl hvN).1
                    rw [LV.out] at gll
                    have cb5 := A8.out.c5
                    have cb6 := A8.out.c6
                    go_big_quiet (fail)
                    have a7 := A8.out.draws (w' := W3.drewN nq) (Upd.drewN [] _ _)
                    obtain ⟨W4, hW4⟩ : ∃ z : World, z = W3.drewN nq := ⟨_, rfl⟩
                    rw [← hW4] at a7 ⊢
                    clear hW4 gvv gll cb5 cb6
                    obtain ⟨h8, c8, z1, z2, z3, z4, z5, z6, z7⟩ := a7.topo
                    have lc3 : cmp3.length = G.length := I4.out.lc
                    obtain ⟨y0, hy0⟩ := has_at cmp3 (k := v) (by omega)
                    obtain ⟨z8, z9⟩ := a7.gc hy0
                    have a9 := (a7.popo z1 z2).setCmp v (vS3.n : Int)
                    have hSl : Hid (vS3.n = siz3.length) := by
                      have := a7.sz.len
                      show vS3.n = siz3.length
                      simpa using this.symm
                    have hSn : vS3.n < 1000000000000 := by
                      have e1 := hSl.out
                      have e2 := I4.out.sl
                      have e3 := I4.out.Elen
                      omega
                    simp only [List.length_map, List.length_append, List.length_singleton] at z2 z4 z5 a9
                    have hlo8 : w.heap.size + 8 ≤ h8 := a7.lo h8 (by rw [z1]; simp)
                    have hlt4 : w.heap.size + 8 ≤ W4.heap.size := a7.big
                    obtain ⟨W6, hW6⟩ : ∃ z : World, z = (W4.setCell ⟨w.heap.size + 5, 0, none⟩ (.slice (some ⟨h8, 0, none⟩) (ds.length + 1) c8)).setCell ⟨w.heap.size + 4, v, none⟩ (.int .i64 (vS3.n : Int)) := ⟨_, rfl⟩
                    have a10 : CA w W6 G.length vis3 low3 (cmp3.set v (vS3.n : Int)) ((ds ++ [(u, m)]).map Prod.fst) (ds ++ [(u, m)]) E3.length siz3 vS3 g8 g9 gS := by rw [hW6]; exact a9
                    have A9 : Hid _ := a10
                    clear z1 z7 a7 a9 a10 hy0 lc3
                    go_wp2_with fail
                    refine wp_loop_once ?_
                    go_upto_region 41 with fail
                    rw [← hW6]
                    clear hW6
                    go_wp2_with (first
                      | (at_builtin; refine wpList_append_one W6 _ (Upd.refl [] _) rfl (.tmp 181) (.tmp 183) 83 rfl 3 8 slInts (by decide) vS3.a vS3.n vS3.c gS (siz3.map nI) rfl A9.out.sz (by simp) _ rfl _ _ rfl (by simp) hSn ?_; intro gX cX w7 sX uX fX; have SX : Hid _ := sX; have UX : Hid _ := uX; have FX : Hid _ := fX; clear sX uX fX))
                    have a11 := A9.out.newSiz (w' := w7) (siz' := siz3 ++ [1]) (vS' := ⟨some ⟨gX, 0, none⟩, vS3.n + 1, cX⟩) (fS' := [gX]) (by simpa [nI] using SX.out) UX.out (fun k hk => by simp at hk; subst hk; exact FX.out) (by simp)
                    rw [hSl.out] at a11
                    go_roundg (tot G (upd rem3 v 0))
                    case measure => omega
                    case rel => exact ⟨vis3, low3, cmp3.set v (siz3.length : Int), (ds ++ [(u, m)]), siz3 ++ [1], E3, _, ⟨some ⟨gX, 0, none⟩, vS3.n + 1, cX⟩, g8, g9, [gX], rfl, rfl, by rw [hSl.out]; exact a11, IP.out, R3.out⟩
        · have hi2 : i = G.length := by omega
          have R2 : Hid (∀ x, x < G.length → x ∈ E) := fun x hx => R1.out x (by omega)
          clear hi2
          go_wp2_with fail
          go_ret2
          exact ⟨vS, cmp, siz, fS, rfl, A1.out.s2, A1.out.sz, fun x hx => I1.out.c1 x (R2.out x hx) (by simp), I1.out.s1, fun k hk => by have := A1.out.lo k (A1.out.mS hk); omega, A1.out.bel⟩
end Go.Proofs.YbulkctquGreatFmt

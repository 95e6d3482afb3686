/-
  settle, walked whole.
-/
import Derived.Test.YbulkctquGreatFmtSeB
import Derived.Test.YbulkctquGreatFmtSeC
namespace Go.Proofs.YbulkctquGreatFmt
open Go.ChangeShapes Go.WideShapes Go.ChangeAt Go.RowKit Go.Ord
set_option linter.unusedVariables false
attribute [local go_sem ↓] Go.wp_at_zero Go.wp_at_succ

/-- What settle gives. -/
def StlPost (d bN bF m : Nat) (g : GG) (G : List (List Nat)) (J : List Bool) (sg : SG) (ss : List Sr) (og : OG) (os : List Ob) (v : SV) (fT fR : List Nat) (cs : List Cho) (vs : List (SV × SV)) (grp : List Nat) (cmp : List Int) (L : Int) (w : World) : Ending → World → Prop := fun e w' =>
  ∃ (b : Bool) (cs' : List Cho), e = .returned (.bool b) ∧ PX d bN bF m g G J sg ss og os v fT fR cs' vs w' ∧ cs'.length = cs.length ∧ (∀ (c : Nat) (C : Cho), cs'[c]? = some C → ∃ C0, cs[c]? = some C0 ∧ C.a0 = C0.a0 ∧ C.a1 = C0.a1 ∧ (c ∉ grp → C = C0)) ∧ (b = true → (∀ C ∈ cs', C.way ≤ 1) ∧ NoCyc (RL G cmp cs' L)) ∧ Upd fT w w'
theorem idx_inj {mem : List Nat} {x y : Nat} (hx : x ∈ mem) (hy : y ∈ mem) (h : mem.idxOf x = mem.idxOf y) : x = y := by
  have e := at_ix hx
  rw [h, at_ix hy] at e
  injection e with e
  exact e.symm
set_option maxHeartbeats 16000000 in
set_option maxRecDepth 100000 in
theorem set67 (w : World) (d bN bF m : Nat) (g : GG) (G : List (List Nat)) (J : List Bool) (sg : SG) (ss : List Sr) (og : OG) (os : List Ob) (v : SV) (fT fR : List Nat) (cs : List Cho) (vs : List (SV × SV)) (H : PX d bN bF m g G J sg ss og os v fT fR cs vs w)
    (grp mem : List Nat) (ga ma : Option Addr) (gc mc bc cc : Nat) (cmp : List Int) (L : Nat) (gv : ∀ (j x : Nat), grp[j]? = some x → ∃ b, ga = some ⟨b, 0, none⟩ ∧ b < w.heap.size ∧ b ∉ fT ∧ w.cell? ⟨b, j, none⟩ = some (.int .i64 x)) (mv : ∀ (j x : Nat), mem[j]? = some x → ∃ b, ma = some ⟨b, 0, none⟩ ∧ w.cell? ⟨b, j, none⟩ = some (.int .i64 x)) (cv : ∀ (x : Nat) (z : Int), cmp[x]? = some z → w.cell? ⟨bc, x, none⟩ = some (.int .i64 z)) (cl : cmp.length = G.length)
    (gn : grp.Nodup) (gl : ∀ c ∈ grp, c < cs.length) (g0 : 0 < grp.length) (g60 : grp.length ≤ 60) (hway : ∀ C ∈ cs, C.way ≤ 1) (hcl : cs.length ≤ 1000) (mn : mem.Nodup) (mm : ∀ x, x ∈ mem ↔ cmp[x]? = some (L : Int)) (hA : Acy G) (hG : ∀ u, ∀ x ∈ outs G u, x < G.length) (hGl : G.length < 10000) (hwt : wt G < 900000)
    (gm : ∀ (c : Nat) (C : Cho), cs[c]? = some C → cmp[C.a0.i]? = some (L : Int) → c ∈ grp) (gm2 : ∀ c ∈ grp, ∀ C : Cho, cs[c]? = some C → cmp[C.a0.i]? = some (L : Int)) (hin : ∀ C ∈ cs, cmp[C.a0.i]? = some (L : Int) → (∀ t ∈ C.a0.f, t ∈ mem) ∧ (∀ t ∈ C.a1.f, t ∈ mem) ∧ C.a0.i ∈ mem ∧ C.a1.i ∈ mem) (hfl : ∀ C ∈ cs, C.a0.f.length ≤ 100 ∧ C.a1.f.length ≤ 100 ∧ C.a0.f.Nodup ∧ C.a1.f.Nodup) :
    Calls Ybaz.prog 67 #[.pointer (some ⟨d, 0, none⟩), .slice ga grp.length gc, .slice ma mem.length mc, .slice (some ⟨bc, 0, none⟩) G.length cc] w (Thru (StlPost d bN bF m g G J sg ss og os v fT fR cs vs grp cmp L w)) := by
  have ml : mem.length ≤ G.length := nodup_len G.length mem mn (fun x hx => by have := (List.getElem?_eq_some_iff.mp ((mm x).mp hx)).1; omega)
  have mlt : ∀ x ∈ mem, x < G.length := fun x hx => by have := (List.getElem?_eq_some_iff.mp ((mm x).mp hx)).1; omega
  have HX : Hid _ := H
  have GV : Hid (∀ (j x : Nat), grp[j]? = some x → ∃ b, ga = some ⟨b, 0, none⟩ ∧ b < w.heap.size ∧ b ∉ fT ∧ w.cell? ⟨b, j, none⟩ = some (.int .i64 x)) := gv
  have MV : Hid (∀ (j x : Nat), mem[j]? = some x → ∃ b, ma = some ⟨b, 0, none⟩ ∧ w.cell? ⟨b, j, none⟩ = some (.int .i64 x)) := mv
  have CV : Hid (∀ (x : Nat) (z : Int), cmp[x]? = some z → w.cell? ⟨bc, x, none⟩ = some (.int .i64 z)) := cv
  have CL : Hid (cmp.length = G.length) := cl
  have GN : Hid (grp.Nodup) := gn
  have GL : Hid (∀ c ∈ grp, c < cs.length) := gl
  have HWY : Hid (∀ C ∈ cs, C.way ≤ 1) := hway
  have MN : Hid (mem.Nodup) := mn
  have MM : Hid (∀ x, x ∈ mem ↔ cmp[x]? = some (L : Int)) := mm
  have MLT : Hid (∀ x ∈ mem, x < G.length) := mlt
  have HA : Hid (Acy G) := hA
  have HG : Hid (∀ u, ∀ x ∈ outs G u, x < G.length) := hG
  have GM : Hid (∀ (c : Nat) (C : Cho), cs[c]? = some C → cmp[C.a0.i]? = some (L : Int) → c ∈ grp) := gm
  have GM2 : Hid (∀ c ∈ grp, ∀ C : Cho, cs[c]? = some C → cmp[C.a0.i]? = some (L : Int)) := gm2
  have HIN : Hid (∀ C ∈ cs, cmp[C.a0.i]? = some (L : Int) → (∀ t ∈ C.a0.f, t ∈ mem) ∧ (∀ t ∈ C.a1.f, t ∈ mem) ∧ C.a0.i ∈ mem ∧ C.a1.i ∈ mem) := hin
  have HFL : Hid (∀ C ∈ cs, C.a0.f.length ≤ 100 ∧ C.a1.f.length ≤ 100 ∧ C.a0.f.Nodup ∧ C.a1.f.Nodup) := hfl
  have hmm := fun (k : Nat) (w : World) => makeMap_hint (P := Ybaz.prog) Ybaz.underlying145 k w
  have hdw : d < w.heap.size := H.gr.lt
  clear H gv mv cv cl gn gl hway mn mm mlt hA hG gm gm2 hin hfl
  go_enter Ybaz.func67, Ybaz.ntmps67
  go_upto_region 3 with fail
  obtain ⟨bM, hbM⟩ : ∃ b, b = w.heap.size := ⟨_, rfl⟩
  obtain ⟨W1, hW1⟩ : ∃ z : World, z = (w.alloc (.map #[] 0)).alloc (.cells #[.slice none 0 0, .slice none 0 0, .slice none 0 0, .slice none 0 0, .slice none 0 0, .int .i64 0] 210) := ⟨_, rfl⟩
  have XK : Blk W1 (bM + 1) 210 #[.slice none 0 0, .slice none 0 0, .slice none 0 0, .slice none 0 0, .slice none 0 0, .int .i64 0] := by
    have := Blk.new (w.alloc (.map #[] 0)) #[.slice none 0 0, .slice none 0 0, .slice none 0 0, .slice none 0 0, .slice none 0 0, .int .i64 0] 210
    rw [hW1, hbM]
    simpa using this
  have U1 : Upd [] w W1 := by rw [hW1]; exact (Upd.alloc [] _ _).trans (Upd.alloc [] _ _) (by simp)
  have M1 : MapAt W1 (ik .i64) bM (fun _ => none) := by
    rw [hW1, hbM]
    exact (MapAt.new w (ik .i64)).keep (Upd.alloc [] _ _) (by simp)
  rw [← hW1, ← hbM]
  have HBM : Hid (bM = w.heap.size) := hbM
  have T1 : Hid _ := TC.start XK
  have U1H : Hid (Upd [] w W1) := U1
  have M1H : Hid _ := M1
  obtain ⟨bK, hbK⟩ : ∃ b, b = bM + 1 := ⟨_, rfl⟩
  rw [← hbK] at T1 ⊢
  have HBK : Hid (bK = bM + 1) := hbK
  have NK0 : Hid (bM ∉ tcFp bK ggT [] [] ∧ ∀ k ∈ tcFp bK ggT [] [], w.heap.size ≤ k) := by
    refine ⟨fun hm => ?_, fun k hk => ?_⟩
    · simp [tcFp, ggT, GG.foot] at hm; omega
    · simp [tcFp, ggT, GG.foot] at hk; omega
  clear hW1 hbM hbK XK U1 M1 hmm
  go_wp2_with fail
  go_loopw [34] (fun t34 wr => ∃ (i : Nat) (g1 : GG), i ≤ mem.length ∧ t34 = .int .i64 i ∧ TC bK g1 (List.replicate i []) (List.replicate i false) ⟨none, 0, 0⟩ ⟨none, 0, 0⟩ [] [] [] [] [] wr ∧ MapAt wr (ik .i64) bM (fun x => if x ∈ mem.take i then some (.int .i64 (mem.idxOf x : Nat)) else none) ∧ Upd [] w wr ∧ (∀ k ∈ tcFp bK g1 [] [], w.heap.size ≤ k) ∧ bM ∉ tcFp bK g1 [] []) (fun a _ => mem.length - (intOf a).toNat)
  case atStart => exact ⟨0, ggT, by omega, rfl, T1.out, by simpa using M1H.out, U1H.out, NK0.out.2, NK0.out.1⟩
  case round =>
    obtain ⟨i, g1, hi, rfl, h1, h2, h3, h4, h5⟩ := hrel
    have TT : Hid _ := h1
    have MA : Hid _ := h2
    have UW : Hid (Upd [] w wr) := h3
    have LO : Hid (∀ k ∈ tcFp bK g1 [] [], w.heap.size ≤ k) := h4
    have NM : Hid (bM ∉ tcFp bK g1 [] []) := h5
    clear h1 h2 h3 h4 h5
    by_cases hlt : i < mem.length
    · as_aux_lemma =>
      obtain ⟨x, hx⟩ := has_at mem hlt
      obtain ⟨b, z1, z2⟩ := MV.out i x hx
      subst z1
      have z3 := UW.out.cell z2 (by simp)
      have HXX : Hid (mem[i]? = some x) := hx
      have KA : Hid _ := addNode_any wr bK 0 g1 _ _ TT.out.gr (by simp; omega)
      clear hx z2
      go_wp2_with fail
      refine Calls.mono KA.out ?_
      rintro e w2 ⟨rfl, g2, p1, p2, p3, p4⟩
      obtain ⟨q1, q2, q3⟩ := TT.out.graph p1 p2 p3 p4
      have Q1 : Hid (TC bK g2 (List.replicate (i + 1) []) (List.replicate (i + 1) false) ⟨none, 0, 0⟩ ⟨none, 0, 0⟩ [] [] [] [] [] w2) := by
        show TC _ _ _ _ _ _ _ _ _ _ _ _
        rw [List.replicate_succ', List.replicate_succ']; exact q1
      have M2 : Hid _ := MA.out.keep q2 NM.out
      have U2 : Hid (Upd [] w w2) := UW.out.trans q2 (fun k hk => .inr (LO.out k hk))
      have LO2 : Hid (∀ k ∈ tcFp bK g2 [] [], w.heap.size ≤ k) := fun k hk => by
        rcases q3 k hk with z | z
        · exact LO.out k z
        · have := UW.out.size; omega
      have NM2 : Hid (bM ∉ tcFp bK g2 [] []) := fun hm => by
        rcases q3 bM hm with z | z
        · exact NM.out z
        · have := MA.out.lt; omega
      rw [List.length_replicate]
      clear p1 p2 p3 p4 q1 q2 q3 KA
      go_wp2_with (at_mapUpdate; refine wpList_put rfl (.tmp 38) (.tmp 39) (.tmp 41) 145 rfl Ybaz.underlying145 (intKeys Ybaz.underlying3) bM _ M2.out x (.int .i64 i) rfl rfl rfl ?_; intro w5 m5 u5; have M5 : Hid _ := m5; have U5 : Hid _ := u5; clear m5 u5)
      have u5 : Upd [bM] w2 w5 := U5.out
      have lM := HBM.out
      refine ⟨⟨i + 1, g2, by omega, by go_num, Q1.out.keep u5 (fun k hk hm => by simp at hm; subst hm; exact NM2.out hk) (by simp), M5.out.congr (fun y => ?_), U2.out.trans u5 (fun k hk => .inr (by simp at hk; omega)), LO2.out, NM2.out⟩, by simp [intOf] <;> omega⟩
      have ix : mem.idxOf x = i := by
        have h9 := at_ix (List.mem_of_getElem? HXX.out)
        exact nodup_ix MN.out h9 HXX.out
      have tk : mem.take (i + 1) = mem.take i ++ [x] := by rw [List.take_add_one, HXX.out]; rfl
      rw [tk]
      by_cases e : y = x
      · subst e; simp [ix]
      · simp [e]
    · as_aux_lemma =>
      have hi2 : i = mem.length := by omega
      have T2 : Hid (TC bK g1 (List.replicate mem.length []) (List.replicate mem.length false) ⟨none, 0, 0⟩ ⟨none, 0, 0⟩ [] [] [] [] [] wr) := by
        have := TT.out
        rw [hi2] at this
        exact this
      have M2 : Hid (MapAt wr (ik .i64) bM (fun x => if x ∈ mem then some (.int .i64 (mem.idxOf x : Nat)) else none)) := by
        have := MA.out
        rw [hi2, List.take_length] at this
        exact this
      obtain ⟨Wa, hWa⟩ : ∃ z : World, z = wr := ⟨_, rfl⟩
      subst hWa
      clear TT MA hi2
      go_wp2_with fail
      rename_i Kz hKz
      have HKz : Hid _ := hKz
      clear hKz
      go_loopw [45] (fun t45 wr => ∃ (i : Nat) (g2 : GG) (B : List (List Nat)), i ≤ mem.length ∧ t45 = .int .i64 i ∧ TC bK g2 B (List.replicate mem.length false) ⟨none, 0, 0⟩ ⟨none, 0, 0⟩ [] [] [] [] [] wr ∧ LcI G mem i 0 B ∧ Upd (tcFp bK g1 [] []) Wa wr ∧ (∀ k ∈ tcFp bK g2 [] [], k ∈ tcFp bK g1 [] [] ∨ Wa.heap.size ≤ k)) (fun a _ => mem.length - (intOf a).toNat)
      case atStart => exact ⟨0, g1, _, by omega, rfl, T2.out, LcI.start G mem, Upd.refl _ _, fun k hk => .inl hk⟩
      case round =>
        obtain ⟨i, g2, B, hi, rfl, h1, h2, h3, h4⟩ := hrel
        have TT : Hid _ := h1
        have LI : Hid _ := h2
        have UA : Hid (Upd (tcFp bK g1 [] []) Wa wr) := h3
        have FA : Hid (∀ k ∈ tcFp bK g2 [] [], k ∈ tcFp bK g1 [] [] ∨ Wa.heap.size ≤ k) := h4
        have UWW : Hid (Upd [] w wr) := UW.out.trans h3 (fun k hk => .inr (LO.out k hk))
        clear h1 h2 h3 h4
        by_cases hlt : i < mem.length
        · as_aux_lemma =>
          obtain ⟨x, hx⟩ := has_at mem hlt
          obtain ⟨b, z1, z2⟩ := MV.out i x hx
          subst z1
          have z3 := UWW.out.cell z2 (by simp)
          have HXX : Hid (mem[i]? = some x) := hx
          have hxm := List.mem_of_getElem? hx
          have hxG := MLT.out x hxm
          obtain ⟨r, hr⟩ := has_at G hxG
          obtain ⟨gS, ⟨ra, rn, rc⟩, a1, a2, a3, a4, a5, a6, a7, a8, a9, a10, a11⟩ := (HX.out.grow UWW.out).gr.rowAt hr
          simp only at a4 a5 a6 a8
          subst a4
          have RO : Hid (outs G x = r) := by
            show outs G x = r
            simp [outs, hr]
          have RV : Hid (∀ (j y : Nat), r[j]? = some y → ∃ b, ra = some ⟨b, 0, none⟩ ∧ b < w.heap.size ∧ w.cell? ⟨b, j, none⟩ = some (.int .i64 y)) := fun j y hy => by
            obtain ⟨gS', s', b1, b2, b3, b4, b5, b6, b7, b8, b9, b10, b11⟩ := HX.out.gr.rowAt hr
            rw [a3] at b3; injection b3 with b3; subst b3
            obtain ⟨bb, y1, y2⟩ := b11 j y hy
            exact ⟨bb, y1, World.block_lt_of_cell? _ _ y2, y2⟩
          have hrl : r.length ≤ wt G := row_wt G x r hr
          have cx := CV.out x L ((MM.out x).mp hxm)
          have CX : Hid (w.cell? ⟨bc, x, none⟩ = some (.int .i64 (L : Nat))) := cx
          have HXM : Hid (x ∈ mem) := hxm
          clear hx z2 hr a1 a2 a3 a9 a10 a11 cx hxm
          go_wp2_with fail
          clear a7 a8 z3
          go_loopw [58] (fun t58 wx => ∃ (j : Nat) (g3 : GG) (B3 : List (List Nat)), j ≤ r.length ∧ t58 = .int .i64 j ∧ TC bK g3 B3 (List.replicate mem.length false) ⟨none, 0, 0⟩ ⟨none, 0, 0⟩ [] [] [] [] [] wx ∧ LcI G mem i j B3 ∧ Upd (tcFp bK g1 [] []) Wa wx ∧ (∀ k ∈ tcFp bK g3 [] [], k ∈ tcFp bK g1 [] [] ∨ Wa.heap.size ≤ k)) (fun a _ => r.length - (intOf a).toNat)
          case atStart => exact ⟨0, g2, B, by omega, rfl, TT.out, LI.out, UA.out, FA.out⟩
          case round =>
            obtain ⟨j, g3, B3, hj, rfl, h1, h2, h3, h4⟩ := hrel
            have T3 : Hid _ := h1
            have L3 : Hid _ := h2
            have UA3 : Hid (Upd (tcFp bK g1 [] []) Wa wr) := h3
            have FA3 : Hid (∀ k ∈ tcFp bK g3 [] [], k ∈ tcFp bK g1 [] [] ∨ Wa.heap.size ≤ k) := h4
            have UW3 : Hid (Upd [] w wr) := UW.out.trans h3 (fun k hk => .inr (LO.out k hk))
            clear h1 h2 h3 h4
            by_cases hltj : j < r.length
            · as_aux_lemma =>
              obtain ⟨y, hy⟩ := has_at r hltj
              obtain ⟨bb, y1, y2, y3⟩ := RV.out j y hy
              subst y1
              have y4 := UW3.out.cell y3 (by simp)
              have OY : Hid ((outs G x)[j]? = some y) := by
                show (outs G x)[j]? = some y
                rw [RO.out]; exact hy
              have hyG := HG.out x y (by rw [RO.out]; exact List.mem_of_getElem? hy)
              obtain ⟨cy, hcy⟩ := has_at cmp (k := y) (by rw [CL.out]; exact hyG)
              have c1 := UW3.out.cell (CV.out y cy hcy) (by simp)
              have c2 := UW3.out.cell CX.out (by simp)
              have HCY : Hid (cmp[y]? = some cy) := hcy
              clear hy y3 hcy
              by_cases he : cy = (L : Int)
              · as_aux_lemma =>
                subst he
                have hym : y ∈ mem := (MM.out y).mpr HCY.out
                go_upto_region 14 with fail
                go_big_quiet (fail)
                have UQ : Upd [] wr (wr.drewN nq) := Upd.drewN _ _ _
                obtain ⟨W5, hW5⟩ : ∃ z : World, z = wr.drewN nq := ⟨_, rfl⟩
                rw [← hW5] at UQ ⊢
                have T5 := T3.out.grow UQ
                have M5 : MapAt W5 (ik .i64) bM (fun x => if x ∈ mem then some (.int .i64 (mem.idxOf x : Nat)) else none) := (M2.out.keep UA3.out NM.out).keep UQ (by simp)
                have ixx : mem.idxOf x = i := nodup_ix MN.out (at_ix HXM.out) HXX.out
                have hl1 : (Instr.lookup 145 (.map (some bM)) (.int .i64 x) false).run Ybaz.prog W5 = .ok (.int .i64 i) W5 := by
                  have := M5.look (P := Ybaz.prog) (intKeys Ybaz.underlying3) Ybaz.underlying145 zero3 x false
                  rw [if_pos HXM.out, ixx] at this
                  exact this
                obtain ⟨yi, hyi⟩ : ∃ z, z = mem.idxOf y := ⟨_, rfl⟩
                have hl2 : (Instr.lookup 145 (.map (some bM)) (.int .i64 y) false).run Ybaz.prog W5 = .ok (.int .i64 yi) W5 := by
                  have := M5.look (P := Ybaz.prog) (intKeys Ybaz.underlying3) Ybaz.underlying145 zero3 y false
                  rw [if_pos hym, ← hyi] at this
                  exact this
                have hwb : wt B3 < 900000 + 1 := by
                  have e1 := L3.out.wt
                  have e2 := sum_outs G (mem.take (i + 1)) (List.Nodup.sublist (List.take_sublist _ _) MN.out) (fun v hv => MLT.out v (List.mem_of_mem_take hv))
                  rw [List.take_add_one, HXX.out, Option.toList_some, List.map_append, List.sum_append, List.map_singleton, List.sum_singleton, RO.out] at e2
                  omega
                have KA : Hid _ := addArc_arc W5 bK 0 g3 B3 _ T5.gr i yi (by rw [L3.out.len]; exact hlt) (by omega)
                have T5H : Hid _ := T5
                have UQH : Hid (Upd [] wr W5) := UQ
                have LA : Hid (LcI G mem i (j + 1) (arc B3 i yi)) := by
                  have := L3.out.arc MN.out HXX.out OY.out hym
                  rw [← hyi] at this
                  exact this
                clear hW5 UQ T5 M5 ixx hyi hwb y4 c1 c2
                go_wp2_with fail
                refine Calls.mono KA.out ?_
                rintro e w6 ⟨rfl, g6, p1, p2⟩
                obtain ⟨q1, q2, q3⟩ := T5H.out.graph p1 p2.upd p2.foot p2.kc
                have Q1 : Hid _ := q1
                have z5 := UQH.out.size
                have zA := UA3.out.size
                have U6 : Hid (Upd (tcFp bK g1 [] []) Wa w6) := (UA3.out.trans UQH.out (by simp)).trans q2 (fun k hk => FA3.out k hk)
                have F6 : Hid (∀ k ∈ tcFp bK g6 [] [], k ∈ tcFp bK g1 [] [] ∨ Wa.heap.size ≤ k) := fun k hk => by
                  rcases q3 k hk with z | z
                  · exact FA3.out k z
                  · exact .inr (by omega)
                clear p1 p2 q1 q2 q3 KA hl1 hl2
                go_wp2_with fail
                exact ⟨⟨j + 1, g6, _, by omega, by go_num, Q1.out, LA.out, U6.out, F6.out⟩, by simp [intOf] <;> omega⟩
              · as_aux_lemma =>
                have hym : y ∉ mem := fun hm => he (by have := (MM.out y).mp hm; rw [HCY.out] at this; injection this)
                go_upto_region 14 with fail
                go_big_quiet (fail)
                have UQ : Upd [] wr (wr.drewN nq) := Upd.drewN _ _ _
                obtain ⟨W5, hW5⟩ : ∃ z : World, z = wr.drewN nq := ⟨_, rfl⟩
                rw [← hW5] at UQ ⊢
                clear hW5 y4 c1 c2
                go_wp2_with fail
                exact ⟨⟨j + 1, g3, B3, by omega, by go_num, T3.out.grow UQ, L3.out.skip MN.out HXX.out OY.out hym, UA3.out.trans UQ (by simp), FA3.out⟩, by simp [intOf] <;> omega⟩
            · as_aux_lemma =>
              have LN : Hid _ := L3.out.next HXX.out (by rw [RO.out]; omega) (by rw [RO.out]; exact hj)
              go_wp2_with fail
              exact ⟨⟨i + 1, g3, B3, by omega, by go_num, T3.out, LN.out, UA3.out, FA3.out⟩, by simp [intOf] <;> omega⟩
        · as_aux_lemma =>
          have hi3 : i = mem.length := by omega
          have LF : Loc G B cmp L mem := by
            have := LI.out
            rw [hi3] at this
            exact this.done MN.out MM.out
          have LFH : Hid _ := LF
          have hB := LF.len
          have KK : TK (wsL cs mem grp) B := by
            have alt : ∀ c v, ∃ (F : List Nat) (I : Nat), altOf (wsL cs mem grp) c v = ⟨F.map mem.idxOf, I⟩ ∧ (∀ t ∈ F, t ∈ mem) ∧ F.Nodup ∧ F.length ≤ 100 ∧ (c < (wsL cs mem grp).length → I < B.length) := by
              intro c v
              cases hc : grp[c]? with
              | none =>
                refine ⟨[], 0, ?_, by simp, by simp, by simp, fun h => ?_⟩
                · simp [altOf, wsL, hc]
                · have := List.getElem?_eq_none_iff.mp hc
                  simp [wsL] at h
                  omega
              | some k =>
                have hkm := List.mem_of_getElem? hc
                obtain ⟨C, hC⟩ := has_at cs (GL.out k hkm)
                have hCm := List.mem_of_getElem? hC
                obtain ⟨n1, n2, n3, n4⟩ := HIN.out C hCm (GM2.out k hkm C hC)
                obtain ⟨l1, l2, l3, l4⟩ := HFL.out C hCm
                rw [wsL_at hc hC]
                by_cases e : v = 0
                · rw [if_pos e]
                  exact ⟨C.a0.f, mem.idxOf C.a0.i, rfl, n1, l3, l1, fun _ => by rw [hB]; exact List.idxOf_lt_length_iff.mpr n3⟩
                · rw [if_neg e]
                  exact ⟨C.a1.f, mem.idxOf C.a1.i, rfl, n2, l4, l2, fun _ => by rw [hB]; exact List.idxOf_lt_length_iff.mpr n4⟩
            refine ⟨fun c v => ?_, fun c v => ?_, by simp [wsL]; omega, by rw [hB]; omega, ?_, fun u x hx => ?_⟩
            · obtain ⟨F, I, e, f1, f2, f3, f4⟩ := alt c v
              rw [e]
              refine ⟨?_, fun t ht => ?_, f4⟩
              · refine List.Pairwise.map _ (R := fun a b => a ∈ F ∧ b ∈ F ∧ a ≠ b) ?_ (List.Pairwise.imp_of_mem (fun {a b} ha hb hab => ⟨ha, hb, hab⟩) f2)
                rintro a b ⟨ha, hb, hne⟩ he
                exact hne (idx_inj (f1 a ha) (f1 b hb) he)
              · obtain ⟨y, hy, rfl⟩ := List.mem_map.mp ht
                rw [hB]; exact List.idxOf_lt_length_iff.mpr (f1 y hy)
            · obtain ⟨F, I, e, f1, f2, f3, f4⟩ := alt c v
              rw [e]; simpa using f3
            · have e1 := LI.out.wt
              have e2 := sum_outs G (mem.take i) (List.Nodup.sublist (List.take_sublist _ _) MN.out) (fun v hv => MLT.out v (List.mem_of_mem_take hv))
              omega
            · obtain ⟨v', u', g1', g2', _⟩ := LI.out.snd u x hx
              have := (List.getElem?_eq_some_iff.mp g2').1
              rw [hB]; exact this
          have KKH : Hid _ := KK
          have LOF : Hid (∀ k ∈ tcFp bK g2 [] [], w.heap.size ≤ k) := fun k hk => by
            rcases FA.out k hk with z | z
            · exact LO.out k z
            · have := UW.out.size; omega
          have NMF : Hid (bM ∉ tcFp bK g2 [] []) := fun hm => by
            rcases FA.out bM hm with z | z
            · exact NM.out z
            · have := M2.out.lt; omega
          have MF : Hid _ := M2.out.keep UA.out NM.out
          have hbm : w.heap.size ≤ bM := by have := HBM.out; omega
          have hB2 : mem.length = B.length := hB.symm
          have HB2 : Hid (mem.length = B.length) := hB2
          clear LF KK hB hB2
          go_wp2_with fail
          refine HKz.out _ _ ?_
          refine wp_seq ?_
          rw [HB2.out]
          refine set18 w d bN bF m bM bK g G J sg ss og os v fT fR cs vs HX.out grp mem ga ma (some ⟨bc, 0, none⟩) gc mc G.length cc GV.out GN.out GL.out g0 g60 HWY.out hcl B (List.replicate mem.length false) g2 KKH.out (fun c hc C hC => HIN.out C (List.mem_of_getElem? hC) (GM2.out c hc C hC)) (fun C hC => ⟨(HFL.out C hC).1, (HFL.out C hC).2.1⟩) (by omega) wr UWW.out TT.out LOF.out _ MF.out (fun t ht => if_pos ht) hbm NMF.out _ ?_
          intros
          rename_i g4 vW vC fW fC fV vsW wq hT hU hl1 hl2
          show se35.wp Ybaz.prog (bodyPost Ybaz.prog Ybaz.f67 (Thru (StlPost d bN bF m g G J sg ss og os v fT fR cs vs grp cmp L w))) _ _
          refine set35 w d bN bF m bM bK g G J sg ss og os v fT fR cs vs HX.out grp ga ma (some ⟨bc, 0, none⟩) gc mc G.length cc GV.out GN.out GL.out g0 HWY.out hcl (wsL cs mem grp) (by simp [wsL]) B (List.replicate mem.length false) g4 vW vC fW fC fV vsW KKH.out wq hU hT hl1 hl2 _ ?_
          rintro e w' ⟨b, cs', q1, q2, q3, q4, q5, q6⟩
          refine ⟨b, cs', q1, q2, q3, q4, fun hb => ?_, q6⟩
          obtain ⟨ch, tr, G', t1, t2, t3⟩ := q5 hb
          refine ⟨fun C hC => ?_, settled LFH.out HA.out GM.out (fun c C hC hl => HIN.out C (List.mem_of_getElem? hC) hl) t1 t2 (fun c C hC => ?_)⟩
          · obtain ⟨c, hc⟩ := List.getElem?_of_mem hC
            obtain ⟨C0, a1, a2, a3, a4⟩ := q4 c C hc
            by_cases hg : c ∈ grp
            · obtain ⟨i', hi'⟩ := List.getElem?_of_mem hg
              have e1 := t3 i' c C hi' hc
              have hil : i' < (wsL cs mem grp).length := by
                have := (List.getElem?_eq_some_iff.mp hi').1
                simpa [wsL] using this
              obtain ⟨s, hs1, hs2, hs3⟩ := t1.all t2 hil
              rw [hs3] at e1
              injection e1 with e1
              have := (t1.lt s hs1).2
              omega
            · rw [a4 hg]; exact HWY.out C0 (List.mem_of_getElem? a1)
          · obtain ⟨C0, a1, a2, a3, a4⟩ := q4 c C hC
            exact ⟨C0, a1, a2, a3, fun i' hi' => t3 i' c C hi' hC⟩
end Go.Proofs.YbulkctquGreatFmt

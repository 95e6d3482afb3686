/-
  choose, walked whole.
-/
import Derived.Test.YbulkctquGreatFmtChoD
namespace Go.Proofs.YbulkctquGreatFmt
open Go.ChangeShapes Go.WideShapes Go.ChangeAt Go.RowKit Go.Ord
set_option linter.unusedVariables false
attribute [local go_sem ↓] Go.wp_at_zero Go.wp_at_succ

/-- A clone put into a box. -/
theorem GrK.start {w0 w1 : World} {bS : Nat} {aJ : Option Addr} {G : List (List Nat)} {J : List Bool} {Y : List SV} (h1 : w0.heap.size ≤ bS) (h2 : Sl w1 83 1 (some ⟨bS, 0, none⟩) G.length G.length [bS] (Y.map SV.val))
    (h3 : ∀ (i : Nat) (r : List Nat), G[i]? = some r → ∃ s : SV, Y[i]? = some s ∧ s.n = r.length ∧ s.c = s.n ∧ s.c ≤ 9223372036854775807 ∧ (s.a = none ∧ s.c = 0 ∨ ∃ c, s.a = some ⟨c, 0, none⟩) ∧ ∀ (k x : Nat), r[k]? = some x → ∃ c, s.a = some ⟨c, 0, none⟩ ∧ w0.cell? ⟨c, k, none⟩ = some (.int .i64 x))
    (h4 : ∀ (i : Nat) (j : Bool), J[i]? = some j → ∃ c, aJ = some ⟨c, 0, none⟩ ∧ w0.cell? ⟨c, i, none⟩ = some (.bool j)) (h5 : J.length = G.length) (h6 : aJ = none ∧ G.length = 0 ∨ ∃ c, aJ = some ⟨c, 0, none⟩) (h7 : Upd [] w0 w1) :
    GrK w0.heap.size (w1.alloc (.cells #[.slice (some ⟨bS, 0, none⟩) G.length G.length, .slice aJ G.length G.length] 88)) w1.heap.size bS aJ G J Y (List.replicate G.length []) := by
  have B := Blk.new w1 #[.slice (some ⟨bS, 0, none⟩) G.length G.length, .slice aJ G.length G.length] 88
  have U := Upd.alloc [] w1 (.cells #[.slice (some ⟨bS, 0, none⟩) G.length G.length, .slice aJ G.length G.length] 88)
  have bl := h2.lt bS (by simp)
  have fl : (List.replicate G.length ([] : List Nat)).flatten = [] := by simp
  have sz := h7.size
  refine ⟨B.cell 0, B.cell 1, h2.keep U (by simp), by simp, fun i s f r hs hf hr => ?_, ?_, ?_, fun i j hj => ?_, h5, h6⟩
  · obtain ⟨s', e1, e2, e3, e4, e5, e6⟩ := h3 i r hr
    rw [hs] at e1; injection e1 with e1; subst e1
    have hf2 : f = [] := by
      have := List.mem_of_getElem? hf
      exact (List.mem_replicate.mp this).2
    refine ⟨e2, .inl ⟨hf2, e3, e4, e5, fun k x hx => ?_⟩⟩
    obtain ⟨c, c1, c2⟩ := e6 k x hx
    exact ⟨c, c1, World.block_lt_of_cell? _ _ c2, U.cell (h7.cell c2 (by simp)) (by simp)⟩
  · rw [fl]; simp; omega
  · rw [fl]
    intro k hk
    have := U.size
    have z : (w1.alloc (.cells #[.slice (some ⟨bS, 0, none⟩) G.length G.length, .slice aJ G.length G.length] 88)).heap.size = w1.heap.size + 1 := by simp
    simp at hk
    rcases hk with rfl | rfl
    · omega
    · omega
  · obtain ⟨c, c1, c2⟩ := h4 i j hj
    exact ⟨c, c1, World.block_lt_of_cell? _ _ c2, U.cell (h7.cell c2 (by simp)) (by simp)⟩
set_option maxHeartbeats 16000000 in
set_option maxRecDepth 100000 in
theorem choose45g (w : World) (d bN bF m : Nat) (g : GG) (G : List (List Nat)) (J : List Bool) (sg : SG) (ss : List Sr) (og : OG) (os : List Ob) (v : SV) (fT fR : List Nat) (cs : List Cho) (vs : List (SV × SV)) (H : PX d bN bF m g G J sg ss og os v fT fR cs vs w)
    (hcl : cs.length ≤ 60) (hway : ∀ C ∈ cs, C.way ≤ 1) (hfl : ∀ C ∈ cs, C.a0.f.length ≤ 100 ∧ C.a1.f.length ≤ 100 ∧ C.a0.f.Nodup ∧ C.a1.f.Nodup) (hfb : ∀ C ∈ cs, (∀ t ∈ C.a0.f, t < G.length) ∧ ∀ t ∈ C.a1.f, t < G.length) (hci : ∀ (cmp : List Int) (siz : List Nat), Comp (allG G cs) cmp siz → ∀ C ∈ cs, ChIn cmp C) (hib : ∀ C ∈ cs, C.a0.i < m ∧ C.a1.i < m) (hmG : m ≤ G.length) (hm12 : m ≤ 12) (hA : Acy G) (hG : ∀ u, ∀ x ∈ outs G u, x < G.length) (hGl : G.length < 10000) (hwt : wt G < 800000) (hF : ∀ t < m, ∃ p : Nat, w.cell? ⟨bF, t, none⟩ = some (.int .i64 p)) (hFT : bF ∉ fT) :
    Calls Ybaz.prog 45 #[.pointer (some ⟨d, 0, none⟩)] w (Thru (ChoPost d bN bF m g G J sg ss og os v fT fR cs vs w)) := by
  have HX : Hid _ := H
  have HWY : Hid (∀ C ∈ cs, C.way ≤ 1) := hway
  have HFL : Hid (∀ C ∈ cs, C.a0.f.length ≤ 100 ∧ C.a1.f.length ≤ 100 ∧ C.a0.f.Nodup ∧ C.a1.f.Nodup) := hfl
  have HFB : Hid (∀ C ∈ cs, (∀ t ∈ C.a0.f, t < G.length) ∧ ∀ t ∈ C.a1.f, t < G.length) := hfb
  have HCI : Hid (∀ (cmp : List Int) (siz : List Nat), Comp (allG G cs) cmp siz → ∀ C ∈ cs, ChIn cmp C) := hci
  have HIB : Hid (∀ C ∈ cs, C.a0.i < m ∧ C.a1.i < m) := hib
  have HA : Hid (Acy G) := hA
  have HG : Hid (∀ u, ∀ x ∈ outs G u, x < G.length) := hG
  have HF : Hid (∀ t < m, ∃ p : Nat, w.cell? ⟨bF, t, none⟩ = some (.int .i64 p)) := hF
  have HFT : Hid (bF ∉ fT) := hFT
  have hdw : d < w.heap.size := H.gr.lt
  clear H hway hfl hfb hci hib hA hG hF hFT
  go_enter Ybaz.func45, Ybaz.ntmps45
  go_upto_region 1 with fail
  obtain ⟨b0, hb0⟩ : ∃ b, b = w.heap.size := ⟨_, rfl⟩
  obtain ⟨W1, hW1⟩ : ∃ z : World, z = w.alloc (.cells #[.pointer (some ⟨d, 0, none⟩)] 79) := ⟨_, rfl⟩
  have X1 : Blk W1 b0 79 #[.pointer (some ⟨d, 0, none⟩)] := by rw [hW1, hb0]; exact Blk.new _ _ _
  have U1 : Upd [] w W1 := by rw [hW1]; exact Upd.alloc _ _ _
  rw [← hW1, ← hb0]
  have c0 : W1.cell? ⟨b0, 0, none⟩ = some (.pointer (some ⟨d, 0, none⟩)) := X1.cell 0
  have HB0 : Hid (b0 = w.heap.size) := hb0
  have U1H : Hid (Upd [] w W1) := U1
  have C0 : Hid (W1.cell? ⟨b0, 0, none⟩ = some (.pointer (some ⟨d, 0, none⟩))) := c0
  have KK : Hid _ := clone46k W1 d 2 G J (HX.out.grow U1).gr.read (by omega)
  have hd1 : d < W1.heap.size := by have := U1.size; omega
  clear hW1 hb0 X1 U1
  rename_i Kz hKz
  have HKz : Hid _ := hKz
  clear hKz
  go_wp2_with fail
  refine Calls.mono KK.out ?_
  rintro e w2 ⟨bS, aJ, Y, rfl, p1, p2, p3, p4, p5, p6, p7⟩
  have U2 : Upd [] W1 w2 := ⟨p7.os, p7.tape, p7.output, p7.size, fun k hk _ => p7.block k hk⟩
  have GK : Hid _ := GrK.start p1 p2 p3 p4 p5 p6 U2
  have U2H : Hid (Upd [] W1 w2) := U2
  have LS : Hid (W1.heap.size ≤ bS) := p1
  clear p1 p2 p3 p4 p5 p6 p7 U2 KK c0
  go_wp2_with fail
  obtain ⟨bQ, hbQ⟩ : ∃ b, b = w2.heap.size := ⟨_, rfl⟩
  obtain ⟨W3, hW3⟩ : ∃ z : World, z = w2.alloc (.cells #[.slice (some ⟨bS, 0, none⟩) G.length G.length, .slice aJ G.length G.length] 88) := ⟨_, rfl⟩
  rw [← hW3, ← hbQ] at GK ⊢
  have U3 : Upd [] w2 W3 := by rw [hW3]; exact Upd.alloc _ _ _
  have U13 : Upd [] W1 W3 := U2H.out.trans U3 (by simp)
  have z1 := U2H.out.size
  have z0 := U1H.out.size
  have zb := HB0.out
  have zl := World.block_lt_of_cell? _ _ C0.out
  have zl : b0 < W1.heap.size := zl
  have zs := LS.out
  refine HKz.out _ _ ?_
  refine wp_seq ?_
  refine cho2 w d bN bF m b0 bQ bS W1.heap.size aJ g G J sg ss og os v fT fR cs vs HX.out hcl z0 (fun C hC => ⟨(HFL.out C hC).1, (HFL.out C hC).2.1⟩) HFB.out hGl hwt Y (List.replicate G.length []) W3 (U1H.out.trans U13 (by simp)) (U13.cell C0.out (by simp)) (by simp; omega) GK.out _ ?_
  intros
  rename_i Y' fI' wr hK hU hf
  show ch15.wp Ybaz.prog (bodyPost Ybaz.prog Ybaz.f45 (Thru (ChoPost d bN bF m g G J sg ss og os v fT fR cs vs w))) _ _
  refine cho15 w wr d bN bF m b0 bQ bS W1.heap.size aJ g G J sg ss og os v fT fR cs vs HX.out ((U1H.out.trans U13 (by simp)).trans hU (fun k hk => .inr ?_)) (hU.cell (U13.cell C0.out (by simp)) (by simp; omega)) (by omega) Y' fI' hK hcl HWY.out HFL.out HCI.out HIB.out hmG hm12 HA.out HG.out hGl hwt HF.out HFT.out
  simp at hk
  rcases hk with rfl | rfl
  · omega
  · omega
end Go.Proofs.YbulkctquGreatFmt

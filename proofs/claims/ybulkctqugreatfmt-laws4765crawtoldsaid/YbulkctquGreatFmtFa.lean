/-
  forcedArc, walked: what forces is found.
-/
import Derived.Test.YbulkctquGreatFmtDa
namespace Go.Proofs.YbulkctquGreatFmt
open Go.ChangeShapes Go.WideShapes Go.ChangeAt Go.RowKit Go.Ord
set_option linter.unusedVariables false
attribute [-go_sem] Go.Instr.build

/-- What forces p before q. -/
def InC (hs : List (List Tx)) (p q : Nat × Nat) (x : Ev) : Prop := x.k = 0 ∧ x.i = true ∧ ∃ e' y, At hs q.1 q.2 e' y ∧ y.k = 1 ∧ y.x = x.x
def OvC (hs : List (List Tx)) (F : Nat → Option Wr) (p q : Nat × Nat) (x : Ev) : Prop := x.k = 0 ∧ x.i = false ∧ ∃ r, F x.v = some r ∧ (r.s, r.k) ≠ q ∧ Dir hs F (r.s, r.k) q ∧ ∃ e' y, At hs q.1 q.2 e' y ∧ y.k = 1 ∧ y.x = x.x
def Cause (hs : List (List Tx)) (F : Nat → Option Wr) (p q : Nat × Nat) : Prop := Dir hs F p q ∨ (∃ e x, At hs p.1 p.2 e x ∧ InC hs p q x) ∨ ∃ e x, At hs p.1 p.2 e x ∧ OvC hs F p q x
def FaPost (w : World) : Ending → World → Prop := fun e w' =>
  ∃ (k a b c a' b' c' : Int) (ptr : Option Addr), e = .returned (.agg #[.int .u8 k, .int .i64 a, .int .i64 b, .int .i64 c, .int .i64 a', .int .i64 b', .int .i64 c', .pointer ptr]) ∧ Below w.heap.size w w'
theorem bd105 (a b : Int) (w : World) : (Instr.build 105 #[(0, .int .i64 a), (1, .int .i64 b)]).run Ybaz.prog w = .ok (.agg #[.int .i64 a, .int .i64 b]) w := by kernel_rfl
theorem bd102p (k a b c a' b' c' : Int) (p : Addr) (w : World) : (Instr.build 102 #[(0, .int .u8 k), (1, .agg #[.int .i64 a, .int .i64 b, .int .i64 c]), (2, .agg #[.int .i64 a', .int .i64 b', .int .i64 c']), (3, .pointer (some p))]).run Ybaz.prog w = .ok (.agg #[.int .u8 k, .int .i64 a, .int .i64 b, .int .i64 c, .int .i64 a', .int .i64 b', .int .i64 c', .pointer (some p)]) w := by kernel_rfl
def z102 : Array Value := #[.int .u8 0, .int .i64 0, .int .i64 0, .int .i64 0, .int .i64 0, .int .i64 0, .int .i64 0, .pointer none]
set_option maxHeartbeats 16000000 in
set_option maxRecDepth 100000 in
theorem forced20 (w : World) (R : HR) (hs : List (List Tx)) (H : HistE w R hs) (O : HOk hs) (hv9 : ∀ s k e x, At hs s k e x → x.k < 256 ∧ x.x < 1000) (cap bm : Nat) (F : Nat → Option Wr) (hF : MapAt w (ik .u64) bm (fun v => (F v).map Wr.val)) (W : WF hs F) (p q : Nat × Nat) (l : List Tx) (t : Tx) (h1 : hs[q.1]? = some l) (h2 : l[q.2]? = some t) (lp : List Tx) (tp : Tx) (h3 : hs[p.1]? = some lp) (h4 : lp[p.2]? = some tp) (hC : Cause hs F p q) :
    Calls Ybaz.prog 20 #[.agg #[.slice (some ⟨R.top, 0, none⟩) hs.length cap], .map (some bm), .agg #[.int .i64 p.1, .int .i64 p.2], .agg #[.int .i64 q.1, .int .i64 q.2]] w (Thru (FaPost w)) := by
  have H' : Hid _ := H
  have O' : Hid _ := O
  have WW : Hid _ := W
  have MF : Hid _ := hF
  have HCC : Hid (Cause hs F p q) := hC
  have HV9 : Hid (∀ s k e x, At hs s k e x → x.k < 256 ∧ x.x < 1000) := hv9
  have hbw : bm < w.heap.size := hF.lt
  have hq1 : q.1 < hs.length := (List.getElem?_eq_some_iff.mp h1).1
  have hq2 : q.2 < l.length := (List.getElem?_eq_some_iff.mp h2).1
  have hp1 : p.1 < hs.length := (List.getElem?_eq_some_iff.mp h3).1
  have hp2 : p.2 < lp.length := (List.getElem?_eq_some_iff.mp h4).1
  have hl1 := O.small
  have hl2 := O.small2 l (List.mem_of_getElem? h1)
  have hl3 := O.small3 l (List.mem_of_getElem? h1) t (List.mem_of_getElem? h2)
  have hl4 := O.small2 lp (List.mem_of_getElem? h3)
  have hl5 := O.small3 lp (List.mem_of_getElem? h3) tp (List.mem_of_getElem? h4)
  have L3 : Hid (hs[q.1]? = some l) := h1
  have T3 : Hid (l[q.2]? = some t) := h2
  have L4 : Hid (hs[p.1]? = some lp) := h3
  have T4 : Hid (lp[p.2]? = some tp) := h4
  obtain ⟨o1, c1, d1⟩ := H.base.ses q.1 l h1
  obtain rfl := d1 (by intro e; rw [e] at hq2; simp at hq2)
  obtain ⟨o2, c2, d2⟩ := H.base.evs q.1 l q.2 t h1 h2
  obtain ⟨o3, c3, d3⟩ := H.base.ses p.1 lp h3
  obtain rfl := d3 (by intro e; rw [e] at hp2; simp at hp2)
  obtain ⟨o4, c4, d4⟩ := H.base.evs p.1 lp p.2 tp h3 h4
  have D2 : Hid (t.evs ≠ [] → o2 = some ⟨R.evs q.1 q.2, 0, none⟩) := d2
  have D4 : Hid (tp.evs ≠ [] → o4 = some ⟨R.evs p.1 p.2, 0, none⟩) := d4
  have hfl := field114_0
  have hb56 := bd56
  have hb102 := bd102
  have hb102p := bd102p
  have hb105 := bd105
  obtain ⟨b0, hb0⟩ : ∃ b, b = w.heap.size := ⟨_, rfl⟩
  obtain ⟨W4, hW4⟩ : ∃ z : World, z = (((w.alloc (.cells #[.slice (some ⟨R.top, 0, none⟩) hs.length cap] 29)).alloc (.cells #[.int .i64 p.1, .int .i64 p.2] 105)).alloc (.cells #[.int .i64 q.1, .int .i64 q.2] 105)).alloc (.cells #[.int .u8 0, .int .i64 0, .int .i64 0, .int .i64 0, .int .i64 0, .int .i64 0, .int .i64 0, .pointer none] 102) := ⟨_, rfl⟩
  have ST : Hid (Blk W4 b0 29 #[.slice (some ⟨R.top, 0, none⟩) hs.length cap] ∧ Blk W4 (b0 + 1) 105 #[.int .i64 p.1, .int .i64 p.2] ∧ Blk W4 (b0 + 2) 105 #[.int .i64 q.1, .int .i64 q.2] ∧ Blk W4 (b0 + 3) 102 #[.int .u8 0, .int .i64 0, .int .i64 0, .int .i64 0, .int .i64 0, .int .i64 0, .int .i64 0, .pointer none] ∧ Upd [] w W4) := by
    obtain ⟨x1, e1⟩ : ∃ z : World, z = w.alloc (.cells #[.slice (some ⟨R.top, 0, none⟩) hs.length cap] 29) := ⟨_, rfl⟩
    obtain ⟨x2, e2⟩ : ∃ z : World, z = x1.alloc (.cells #[.int .i64 p.1, .int .i64 p.2] 105) := ⟨_, rfl⟩
    obtain ⟨x3, e3⟩ : ∃ z : World, z = x2.alloc (.cells #[.int .i64 q.1, .int .i64 q.2] 105) := ⟨_, rfl⟩
    rw [← e1, ← e2, ← e3] at hW4
    have z1 : x1.heap.size = b0 + 1 := by rw [e1, hb0]; simp
    have z2 : x2.heap.size = b0 + 2 := by rw [e2]; simp [z1]
    have z3 : x3.heap.size = b0 + 3 := by rw [e3]; simp [z2]
    have u1 : Upd [] w x1 := by rw [e1]; exact Upd.alloc _ _ _
    have u2 : Upd [] x1 x2 := by rw [e2]; exact Upd.alloc _ _ _
    have u3 : Upd [] x2 x3 := by rw [e3]; exact Upd.alloc _ _ _
    have u4 : Upd [] x3 W4 := by rw [hW4]; exact Upd.alloc _ _ _
    have k0 : Blk x1 b0 29 #[.slice (some ⟨R.top, 0, none⟩) hs.length cap] := by rw [e1, hb0]; exact Blk.new _ _ _
    have k1 : Blk x2 (b0 + 1) 105 #[.int .i64 p.1, .int .i64 p.2] := by rw [e2, ← z1]; exact Blk.new _ _ _
    have k2 : Blk x3 (b0 + 2) 105 #[.int .i64 q.1, .int .i64 q.2] := by rw [e3, ← z2]; exact Blk.new _ _ _
    have k3 : Blk W4 (b0 + 3) 102 #[.int .u8 0, .int .i64 0, .int .i64 0, .int .i64 0, .int .i64 0, .int .i64 0, .int .i64 0, .pointer none] := by rw [hW4, ← z3]; exact Blk.new _ _ _
    exact ⟨((Blk.keep k0 u2 (by simp)).keep u3 (by simp)).keep u4 (by simp), (Blk.keep k1 u3 (by simp)).keep u4 (by simp), Blk.keep k2 u4 (by simp), k3, ((u1.trans u2 (by simp)).trans u3 (by simp)).trans u4 (by simp)⟩
  clear H O W hF h1 h2 h3 h4 d1 d2 d3 d4 hC hv9
  go_enter Ybaz.func20, Ybaz.ntmps20
  go_upto_region 1 with fail
  rw [← hW4, ← hb0]
  rw [show b0 + 1 + 1 + 1 = b0 + 3 from rfl, show b0 + 1 + 1 = b0 + 2 from rfl]
  have HB0 : Hid (b0 = w.heap.size) := hb0
  have UW : Hid (Upd [] w W4) := ST.out.2.2.2.2
  have B4 : Hid (Blk W4 (b0 + 3) 102 #[.int .u8 0, .int .i64 0, .int .i64 0, .int .i64 0, .int .i64 0, .int .i64 0, .int .i64 0, .pointer none]) := ST.out.2.2.2.1
  have g0 : W4.cell? ⟨b0, 0, none⟩ = some (.slice (some ⟨R.top, 0, none⟩) hs.length cap) := ST.out.1.cell 0
  have g1 : W4.cell? ⟨b0 + 1, 0, none⟩ = some (.int .i64 p.1) := ST.out.2.1.cell 0
  have g2 : W4.cell? ⟨b0 + 1, 1, none⟩ = some (.int .i64 p.2) := ST.out.2.1.cell 1
  have g3 : W4.cell? ⟨b0 + 2, 0, none⟩ = some (.int .i64 q.1) := ST.out.2.2.1.cell 0
  have g4 : W4.cell? ⟨b0 + 2, 1, none⟩ = some (.int .i64 q.2) := ST.out.2.2.1.cell 1
  have sz4 : b0 + 4 ≤ W4.heap.size := by have := ST.out.2.2.2.1.lt; omega
  have BW : Hid (Below w.heap.size w W4) := UW.out.below (Nat.le_refl _) (by simp)
  have K42 : Hid _ := direct42 W4 R hs (H'.out.below BW.out) O'.out cap bm F (MF.out.below BW.out hbw) WW.out p q (by omega) (by omega) l t L3.out T3.out
  clear hW4 hb0
  go_wp2_with fail
  refine Calls.mono K42.out ?_
  rintro e w1 ⟨k, a, b, c, a', b', c', ok, rfl, hok, B1⟩
  have BB1 : Hid (Below W4.heap.size W4 w1) := B1
  have HOK : Hid (Dir hs F p q → ok = true) := hok
  clear K42 B1 hok
  go_upto_region 2 with (refine wpList_store_row rfl 102 (.tmp 9) (.tmp 29) rfl w1.heap.size _ rfl rfl 102 _ (Blk.new _ _ _) hi102 rfl (by simp [Value.oneCell']) ?_)
  obtain ⟨b9, hb9⟩ : ∃ b, b = w1.heap.size := ⟨_, rfl⟩
  obtain ⟨W6, hW6⟩ : ∃ z : World, z = (w1.alloc (.cells #[.int .u8 0, .int .i64 0, .int .i64 0, .int .i64 0, .int .i64 0, .int .i64 0, .int .i64 0, .pointer none] 102)).setRow w1.heap.size #[.int .u8 k, .int .i64 a, .int .i64 b, .int .i64 c, .int .i64 a', .int .i64 b', .int .i64 c', .pointer none] := ⟨_, rfl⟩
  have B9 : Hid (Blk W6 b9 102 #[.int .u8 k, .int .i64 a, .int .i64 b, .int .i64 c, .int .i64 a', .int .i64 b', .int .i64 c', .pointer none]) := by
    rw [hW6, hb9]
    exact setRow_heap _ _ _ _ 102 (0, 0) (Blk.new _ _ _)
  have U6 : Hid (Below W4.heap.size W4 W6) := by
    have u : Upd [] w1 W6 := by
      rw [hW6]
      exact (Upd.alloc [] _ _).trans (updRow _ _ _) (fun k hk => by simp at hk; exact .inr (by omega))
    exact BB1.out.trans (u.below BB1.out.size (by simp))
  have hb94 : b0 + 3 < b9 := by have := BB1.out.size; omega
  rw [← hW6, ← hb9]
  clear hW6 hb9
  have B6 : Hid (Blk W6 (b0 + 3) 102 #[.int .u8 0, .int .i64 0, .int .i64 0, .int .i64 0, .int .i64 0, .int .i64 0, .int .i64 0, .pointer none]) := (U6.out.block (b0 + 3) (by omega)).trans B4.out
  have BF6 : Hid (Below w.heap.size w W6) := BW.out.trans ⟨U6.out.os, U6.out.tape, U6.out.output, U6.out.size, fun k hk => U6.out.block k (by have := BW.out.size; omega)⟩
  have r0 := (U6.out.cell (show b0 < W4.heap.size by omega)).trans g0
  have r1 := (U6.out.cell (show b0 + 1 < W4.heap.size by omega)).trans g1
  have r2 := (U6.out.cell (show b0 + 1 < W4.heap.size by omega)).trans g2
  have r3 := (U6.out.cell (show b0 + 2 < W4.heap.size by omega)).trans g3
  have r4 := (U6.out.cell (show b0 + 2 < W4.heap.size by omega)).trans g4
  have hz6 : b0 + 4 ≤ W6.heap.size := by have := U6.out.size; omega
  clear g0 g1 g2 g3 g4 sz4 BB1 U6
  cases ok with
  | true =>
    as_aux_lemma =>
    go_wp2_with (first | refine wpList_load_row rfl 102 (.tmp 9) rfl b9 rfl 102 _ (0, 0) _ B9.out Ybaz.underlying102 rfl hi102 ?_ | refine wpList_store_row rfl 102 (.tmp 8) (.tmp 32) rfl (b0 + 3) _ rfl rfl 102 _ B6.out hi102 rfl (by simp [Value.oneCell']) ?_)
    refine bodyPost_ret (results_cell_row rfl _ _ (b0 + 3) 102 _ (0, 0) _ rfl (setRow_heap W6 (b0 + 3) _ _ 102 (0, 0) B6.out) Ybaz.underlying102 rfl hi102) rfl ?_
    refine ⟨_, _, _, _, _, _, _, none, rfl, ?_⟩
    refine BF6.out.trans (Upd.below (S := [b0 + 3]) (updRow W6 (b0 + 3) _) BF6.out.size (fun k hk => ?_))
    have := HB0.out; simp at hk; omega
  | false =>
    have ND : Hid (¬ Dir hs F p q) := fun h => by have := HOK.out h; cases this
    have k1 := (BF6.out.cell (World.block_lt_of_cell? _ _ c1)).trans c1
    have k2 := (BF6.out.cell (World.block_lt_of_cell? _ _ c2)).trans c2
    have k3 := (BF6.out.cell (World.block_lt_of_cell? _ _ c3)).trans c3
    have k4 := (BF6.out.cell (World.block_lt_of_cell? _ _ c4)).trans c4
    clear HOK B9
    go_upto_region 4 with fail
    go_big_quiet (fail)
    obtain ⟨W7, hW7⟩ : ∃ z : World, z = W6.drewN nq := ⟨_, rfl⟩
    have U7 : Hid (Upd [] W6 W7) := by rw [hW7]; exact Upd.drewN _ _ _
    rw [← hW7]
    clear hW7 k1 k2 k3 k4
    go_wp2_with fail
    have H7 : Hid (HistE W7 R hs) := (H'.out.below BF6.out).keep (fun b j x hx => U7.out.cell hx (by simp))
    have s1 := U7.out.cell r1 (by simp)
    have s2 := U7.out.cell r2 (by simp)
    have s3 := U7.out.cell r3 (by simp)
    have s4 := U7.out.cell r4 (by simp)
    have s0 := U7.out.cell r0 (by simp)
    have B7 : Hid (Blk W7 (b0 + 3) 102 #[.int .u8 0, .int .i64 0, .int .i64 0, .int .i64 0, .int .i64 0, .int .i64 0, .int .i64 0, .pointer none]) := Blk.keep B6.out U7.out (by simp)
    have BF7 : Hid (Below w.heap.size w W7) := BF6.out.trans (U7.out.below BF6.out.size (by simp))
    have HQV : Hid (∀ v ∈ t.evs, v.k < 256 ∧ v.x < 1000) := fun v hv => by
      obtain ⟨e, he⟩ := List.getElem?_of_mem hv
      exact HV9.out _ _ _ _ ⟨l, t, L3.out, T3.out, he⟩
    have hz7 : b0 + 4 ≤ W7.heap.size := by have := U7.out.size; omega
    clear r0 r1 r2 r3 r4 B6 U7 BF6 hz6
    go_loopw [57] (fun t57 wx => ∃ (e : Nat), e ≤ tp.evs.length ∧ t57 = .int .i64 e ∧ (∀ (e' : Nat) (x : Ev), e' < e → tp.evs[e']? = some x → ¬ InC hs p q x) ∧ Upd [] W7 wx) (fun u _ => tp.evs.length - (intOf u).toNat)
    case atStart => exact ⟨0, by omega, rfl, fun e' x h => by omega, Upd.refl _ _⟩
    case round =>
      obtain ⟨e, he, rfl, hn, hu⟩ := hrel
      have HN : Hid (∀ (e' : Nat) (x : Ev), e' < e → tp.evs[e']? = some x → ¬ InC hs p q x) := hn
      have UH : Hid (Upd [] W7 wr) := hu
      by_cases hlt : e < tp.evs.length
      · obtain ⟨v, hv⟩ := has_at tp.evs hlt
        have ho4 := D4.out (by intro h; rw [h] at hlt; simp at hlt)
        subst ho4
        have HW := H7.out.keep (fun b j x hx => hu.cell hx (by simp))
        have a0 := HW.ev p.1 lp p.2 tp e v 0 _ L4.out T4.out hv rfl
        have a1 := HW.ev p.1 lp p.2 tp e v 1 _ L4.out T4.out hv rfl
        have a2 := HW.ev p.1 lp p.2 tp e v 2 _ L4.out T4.out hv rfl
        have a3 := HW.ev p.1 lp p.2 tp e v 3 _ L4.out T4.out hv rfl
        simp only [Nat.add_zero] at a0
        have hat : At hs p.1 p.2 e v := ⟨lp, tp, L4.out, T4.out, hv⟩
        have hkd := O'.out.kind _ _ _ _ hat
        have hvx := (HV9.out _ _ _ _ hat).2
        have NXH : Hid (¬ InC hs p q v → (∀ (e' : Nat) (x : Ev), e' < e + 1 → tp.evs[e']? = some x → ¬ InC hs p q x)) := fun hno e' x h1 h2 => by
          by_cases q1 : e' = e
          · subst q1; rw [hv] at h2; injection h2 with h2; subst h2; exact hno
          · exact hn e' x (by omega) h2
        clear HW hv hn
        rcases hkd with hk | hk
        · rw [hk] at a0
          cases hi : v.i with
          | false =>
            as_aux_lemma =>
            have NO : Hid (¬ InC hs p q v) := fun h => by have := h.2.1; rw [hi] at this; cases this
            rw [hi] at a3
            clear hi hat hk hu
            go_wp2_with fail
            exact ⟨⟨e + 1, by omega, by go_num, NXH.out NO.out, UH.out.trans (Upd.alloc [] _ _) (by simp)⟩, by simp [intOf] <;> omega⟩
          | true =>
            as_aux_lemma =>
            rw [hi] at a3
            have UA : Hid (Upd [] W7 (wr.alloc (.cells #[.int .u8 0, .int .u64 v.x, .int .u64 v.v, .bool true] 37))) := UH.out.trans (Upd.alloc [] _ _) (by simp)
            have HA := H7.out.keep (fun b j x hx => UA.out.cell hx (by simp))
            have K43 : Hid _ := first43 (wr.alloc (.cells #[.int .u8 0, .int .u64 v.x, .int .u64 v.v, .bool true] 37)) o2 (R.evs q.1 q.2) (R.ec q.1 q.2) t.evs hl3 v.x hvx D2.out HQV.out (fun e v j u h1 h2 => HA.ev q.1 l q.2 t e v j u L3.out T3.out h1 h2)
            have HKI : Hid (v.k = 0 ∧ v.i = true) := ⟨hk, hi⟩
            clear hi hat hk hu HA
            go_wp2_with fail
            refine Calls.mono K43.out ?_
            rintro e9 w2 ⟨i, rfl, hi9, U9⟩
            have U2 : Hid (Upd [] W7 w2) := UA.out.trans U9 (by simp)
            have m1 := U2.out.cell s1 (by simp)
            have m2 := U2.out.cell s2 (by simp)
            have m3 := U2.out.cell s3 (by simp)
            have m4 := U2.out.cell s4 (by simp)
            clear U9 K43 UA a0 a1 a2 a3
            rcases hi9 with ⟨rfl, hno⟩ | ⟨kk, vv, rfl, hkk, hww⟩
            · have NO : Hid (¬ InC hs p q v) := fun h => by
                obtain ⟨_, _, e', y, y1, y2, y3⟩ := h
                obtain ⟨l9, t9, z1, z2, z3⟩ := y1
                rw [L3.out] at z1; injection z1 with z1; subst z1
                rw [T3.out] at z2; injection z2 with z2; subst z2
                have := hno y (List.mem_of_getElem? z3)
                simp [isW, y2, y3] at this
              clear hno
              go_wp2_with fail
              exact ⟨⟨e + 1, by omega, by go_num, NXH.out NO.out, U2.out⟩, by simp [intOf] <;> omega⟩
            · have B2 : Hid (Blk w2 (b0 + 3) 102 #[.int .u8 0, .int .i64 0, .int .i64 0, .int .i64 0, .int .i64 0, .int .i64 0, .int .i64 0, .pointer none]) := Blk.keep B7.out U2.out (by simp)
              have hkl : kk < 1000 := by have := (List.getElem?_eq_some_iff.mp hkk).1; omega
              clear hkk hww
              go_wp2_with (refine wpList_store_row rfl 102 (.tmp 8) (.tmp 88) rfl (b0 + 3) _ rfl rfl 102 _ B2.out hi102 rfl (by simp [Value.oneCell']) ?_)
              refine bodyPost_ret (results_cell_row rfl _ _ (b0 + 3) 102 _ (0, 0) _ rfl (setRow_heap w2 (b0 + 3) _ _ 102 (0, 0) B2.out) Ybaz.underlying102 rfl hi102) rfl ?_
              refine ⟨_, _, _, _, _, _, _, none, rfl, ?_⟩
              refine (BF7.out.trans (U2.out.below BF7.out.size (by simp))).trans (Upd.below (S := [b0 + 3]) (updRow w2 (b0 + 3) _) (by have := BF7.out.size; have := U2.out.size; omega) (fun k hk => ?_))
              have := HB0.out; simp at hk; omega
        · as_aux_lemma =>
          have NO : Hid (¬ InC hs p q v) := fun h => by have := h.1; omega
          rw [hk] at a0
          clear hat hk hu
          go_wp2_with fail
          exact ⟨⟨e + 1, by omega, by go_num, NXH.out NO.out, UH.out.trans (Upd.alloc [] _ _) (by simp)⟩, by simp [intOf] <;> omega⟩
      · have he2 : e = tp.evs.length := by omega
        have OV : Hid (∃ e x, At hs p.1 p.2 e x ∧ OvC hs F p q x) := by
          rcases HCC.out with h | h | h
          · exact absurd h ND.out
          · obtain ⟨e', x, h1, h2⟩ := h
            obtain ⟨l9, t9, z1, z2, z3⟩ := h1
            rw [L4.out] at z1; injection z1 with z1; subst z1
            rw [T4.out] at z2; injection z2 with z2; subst z2
            exact absurd h2 (hn e' x (by have := (List.getElem?_eq_some_iff.mp z3).1; omega) z3)
          · exact h
        clear hn hu he2
        go_wp2_with fail
        obtain ⟨W8, hW8⟩ : ∃ z : World, z = wr := ⟨_, rfl⟩
        subst hW8
        go_loopw [92] (fun t92 wx => ∃ (e : Nat), e ≤ tp.evs.length ∧ t92 = .int .i64 e ∧ (∀ (e' : Nat) (x : Ev), e' < e → tp.evs[e']? = some x → ¬ OvC hs F p q x) ∧ Upd [] W7 wx) (fun u _ => tp.evs.length - (intOf u).toNat)
        case atStart => exact ⟨0, by omega, rfl, fun e' x h => by omega, UH.out⟩
        case round =>
          obtain ⟨e, he, rfl, hn, hu⟩ := hrel
          have HN : Hid (∀ (e' : Nat) (x : Ev), e' < e → tp.evs[e']? = some x → ¬ OvC hs F p q x) := hn
          have UR : Hid (Upd [] W7 wr) := hu
          by_cases hlt2 : e < tp.evs.length
          · obtain ⟨v, hv⟩ := has_at tp.evs hlt2
            have ho4 := D4.out (by intro h; rw [h] at hlt2; simp at hlt2)
            subst ho4
            have HW := H7.out.keep (fun b j x hx => hu.cell hx (by simp))
            have a0 := HW.ev p.1 lp p.2 tp e v 0 _ L4.out T4.out hv rfl
            have a1 := HW.ev p.1 lp p.2 tp e v 1 _ L4.out T4.out hv rfl
            have a2 := HW.ev p.1 lp p.2 tp e v 2 _ L4.out T4.out hv rfl
            have a3 := HW.ev p.1 lp p.2 tp e v 3 _ L4.out T4.out hv rfl
            simp only [Nat.add_zero] at a0
            have hat : At hs p.1 p.2 e v := ⟨lp, tp, L4.out, T4.out, hv⟩
            have hkd := O'.out.kind _ _ _ _ hat
            have hvx := (HV9.out _ _ _ _ hat).2
            have NXH : Hid (¬ OvC hs F p q v → (∀ (e' : Nat) (x : Ev), e' < e + 1 → tp.evs[e']? = some x → ¬ OvC hs F p q x)) := fun hno e' x h1 h2 => by
              by_cases q1 : e' = e
              · subst q1; rw [hv] at h2; injection h2 with h2; subst h2; exact hno
              · exact hn e' x (by omega) h2
            clear HW hv hn
            rcases hkd with hk | hk
            · rw [hk] at a0
              cases hi : v.i with
              | true =>
                as_aux_lemma =>
                have NO : Hid (¬ OvC hs F p q v) := fun h => by have := h.2.1; rw [hi] at this; cases this
                rw [hi] at a3
                clear hi hat hk hu
                go_wp2_with fail
                exact ⟨⟨e + 1, by omega, by go_num, NXH.out NO.out, UR.out.trans (Upd.alloc [] _ _) (by simp)⟩, by simp [intOf] <;> omega⟩
              | false =>
                as_aux_lemma =>
                obtain ⟨s', k', e', v', x1, x2, x3, x4⟩ := O'.out.reads _ _ _ _ hat hk hi
                obtain ⟨r, y1, y2, y3, y4⟩ := WW.out.bwd _ _ _ _ x1 x2
                rw [x3] at y1
                obtain ⟨l9, t9, z1, z2, z3⟩ := x1
                have hrs : r.s < 1000 := by have := (List.getElem?_eq_some_iff.mp z1).1; omega
                have hrk : r.k < 1000 := by have := (List.getElem?_eq_some_iff.mp z2).1; have := O'.out.small2 l9 (List.mem_of_getElem? z1); omega
                have FQ : Hid (F v.v = some r) := y1
                have NO : Hid ((∀ e' y, At hs q.1 q.2 e' y → y.k = 1 → y.x = v.x → (r.s, r.k) ≠ q → Dir hs F (r.s, r.k) q → False) → ¬ OvC hs F p q v) := fun h h2 => by
                  obtain ⟨_, _, r', q1, q2, q3, e', y, q4, q5, q6⟩ := h2
                  rw [y1] at q1; injection q1 with q1; subst q1
                  exact h e' y q4 q5 q6 q2 q3
                rw [hi] at a3
                have B5 : Hid (∀ A, Below w.heap.size w (wr.alloc A)) := fun A => BF7.out.trans ((UR.out.trans (Upd.alloc [] _ _) (by simp)).below BF7.out.size (by simp))
                clear hi hat hk hu x2 x3 x4 y1 y2 y3 y4 z1 z2 z3
                go_upto_region 19 with (at_lookup; refine wpList_look1 rfl (.tmp 104) (.tmp 106) 74 rfl Ybaz.underlying74 key35 bm _ (MF.out.below (B5.out _) hbw) v.v zero114 rfl rfl (.agg #[.int .i64 r.s, .int .i64 r.k, .int .i64 r.e, .int .i64 r.n]) (by simp only [FQ.out]; rfl) ?_)
                clear a0 a1 a2 a3
                obtain ⟨bn, hbn⟩ : ∃ b, b = wr.heap.size := ⟨_, rfl⟩
                obtain ⟨Wn, hWn⟩ : ∃ z : World, z = ((wr.alloc (.cells #[.int .u8 0, .int .u64 v.x, .int .u64 v.v, .bool false] 37)).alloc (.cells #[.int .i64 r.s, .int .i64 r.k, .int .i64 r.e] 56)).alloc (.cells #[.int .i64 r.s, .int .i64 r.k] 105) := ⟨_, rfl⟩
                rw [← hWn, ← hbn]
                rw [show bn + 1 + 1 = bn + 2 from rfl]
                have UN : Hid (Upd [] W7 Wn ∧ Blk Wn bn 37 #[.int .u8 0, .int .u64 v.x, .int .u64 v.v, .bool false] ∧ Blk Wn (bn + 2) 105 #[.int .i64 r.s, .int .i64 r.k]) := by
                  obtain ⟨x1, e1⟩ : ∃ z : World, z = wr.alloc (.cells #[.int .u8 0, .int .u64 v.x, .int .u64 v.v, .bool false] 37) := ⟨_, rfl⟩
                  obtain ⟨x2, e2⟩ : ∃ z : World, z = x1.alloc (.cells #[.int .i64 r.s, .int .i64 r.k, .int .i64 r.e] 56) := ⟨_, rfl⟩
                  rw [← e1, ← e2] at hWn
                  have z1 : x1.heap.size = bn + 1 := by rw [e1, hbn]; simp
                  have z2 : x2.heap.size = bn + 2 := by rw [e2]; simp [z1]
                  have u1 : Upd [] wr x1 := by rw [e1]; exact Upd.alloc _ _ _
                  have u2 : Upd [] x1 x2 := by rw [e2]; exact Upd.alloc _ _ _
                  have u3 : Upd [] x2 Wn := by rw [hWn]; exact Upd.alloc _ _ _
                  have k0 : Blk x1 bn 37 #[.int .u8 0, .int .u64 v.x, .int .u64 v.v, .bool false] := by rw [e1, hbn]; exact Blk.new _ _ _
                  have k2 : Blk Wn (bn + 2) 105 #[.int .i64 r.s, .int .i64 r.k] := by rw [hWn, ← z2]; exact Blk.new _ _ _
                  exact ⟨((UR.out.trans u1 (by simp)).trans u2 (by simp)).trans u3 (by simp), (Blk.keep k0 u2 (by simp)).keep u3 (by simp), k2⟩
                have n0 : Wn.cell? ⟨bn, 1, none⟩ = some (.int .u64 v.x) := UN.out.2.1.cell 1
                have HA := H7.out.keep (fun b j x hx => UN.out.1.cell hx (by simp))
                have K43 : Hid _ := first43 Wn o2 (R.evs q.1 q.2) (R.ec q.1 q.2) t.evs hl3 v.x hvx D2.out HQV.out (fun e v j u h1 h2 => HA.ev q.1 l q.2 t e v j u L3.out T3.out h1 h2)
                have UN1 : Hid (Upd [] W7 Wn) := UN.out.1
                have BN2 : Hid (Blk Wn (bn + 2) 105 #[.int .i64 r.s, .int .i64 r.k]) := UN.out.2.2
                clear hWn hbn HA UN
                go_wp2_with fail
                refine Calls.mono K43.out ?_
                rintro e9 w2 ⟨i, rfl, hi9, U9⟩
                have U2 : Hid (Upd [] W7 w2) := UN1.out.trans U9 (by simp)
                have m0 := U2.out.cell s0 (by simp)
                have m1 := U2.out.cell s1 (by simp)
                have m2 := U2.out.cell s2 (by simp)
                have m3 := U2.out.cell s3 (by simp)
                have m4 := U2.out.cell s4 (by simp)
                have BN3 : Hid (Blk w2 (bn + 2) 105 #[.int .i64 r.s, .int .i64 r.k]) := Blk.keep BN2.out U9 (by simp)
                have m5 : w2.cell? ⟨bn + 2, 0, none⟩ = some (.int .i64 r.s) := BN3.out.cell 0
                have m6 : w2.cell? ⟨bn + 2, 1, none⟩ = some (.int .i64 r.k) := BN3.out.cell 1
                clear U9 K43 n0 BN2
                by_cases eq1 : r.s = q.1 ∧ r.k = q.2
                · have e1 : ((r.s : Nat) : Int) = (q.1 : Int) := by omega
                  have e2 : ((r.k : Nat) : Int) = (q.2 : Int) := by omega
                  have EQ1 : Hid (r.s = q.1 ∧ r.k = q.2) := eq1
                  clear hi9 eq1
                  go_wp2_with fail
                  exact ⟨⟨e + 1, by omega, by go_num, NXH.out (NO.out (fun e' y _ _ _ h _ => h (Prod.ext EQ1.out.1 EQ1.out.2))), U2.out⟩, by simp [intOf] <;> omega⟩
                · have NE : Hid ((r.s, r.k) ≠ q) := fun h => eq1 (by rw [← h]; exact ⟨rfl, rfl⟩)
                  rcases hi9 with ⟨rfl, hno⟩ | ⟨kk, vv, rfl, hkk, hww⟩
                  · have NW : Hid (∀ e' y, At hs q.1 q.2 e' y → y.k = 1 → y.x = v.x → (r.s, r.k) ≠ q → Dir hs F (r.s, r.k) q → False) := fun e' y y1 y2 y3 _ _ => by
                      obtain ⟨l9, t9, z1, z2, z3⟩ := y1
                      rw [L3.out] at z1; injection z1 with z1; subst z1
                      rw [T3.out] at z2; injection z2 with z2; subst z2
                      have := hno y (List.mem_of_getElem? z3)
                      simp [isW, y2, y3] at this
                    clear hno
                    by_cases er : r.s = q.1
                    · have e1 : ((r.s : Nat) : Int) = (q.1 : Int) := by omega
                      have e2 : ¬ ((r.k : Nat) : Int) = (q.2 : Int) := by omega
                      clear eq1 er
                      go_wp2_with fail
                      exact ⟨⟨e + 1, by omega, by go_num, NXH.out (NO.out NW.out), U2.out⟩, by simp [intOf] <;> omega⟩
                    · have e1 : ¬ ((r.s : Nat) : Int) = (q.1 : Int) := by omega
                      clear eq1
                      go_wp2_with fail
                      exact ⟨⟨e + 1, by omega, by go_num, NXH.out (NO.out NW.out), U2.out⟩, by simp [intOf] <;> omega⟩
                  · have hkl : kk < 1000 := by have := (List.getElem?_eq_some_iff.mp hkk).1; omega
                    have H2 := H7.out.keep (fun b j x hx => U2.out.cell hx (by simp))
                    have B2w : Below w.heap.size w w2 := BF7.out.trans (U2.out.below BF7.out.size (by simp))
                    have K42 : Hid _ := direct42 w2 R hs H2 O'.out cap bm F (MF.out.below B2w hbw) WW.out (r.s, r.k) q hrs hrk l t L3.out T3.out
                    have BB2 : Hid (Below w.heap.size w w2) := B2w
                    have B2 : Hid (Blk w2 (b0 + 3) 102 #[.int .u8 0, .int .i64 0, .int .i64 0, .int .i64 0, .int .i64 0, .int .i64 0, .int .i64 0, .pointer none]) := Blk.keep B7.out U2.out (by simp)
                    have hz2 : b0 + 4 ≤ w2.heap.size := by have := U2.out.size; omega
                    clear H2 B2w hkk hww
                    go_upto_region 20 with fail
                    go_cut [124] (fun t124 wx => wx = w2 ∧ t124 = .bool false)
                    case first =>
                      by_cases er : r.s = q.1
                      · have e2 : ¬ ((r.k : Nat) : Int) = (q.2 : Int) := by omega
                        clear eq1 er
                        go_wp2_with fail
                        all_goals go_meet
                        exact ⟨rfl, rfl⟩
                      · have e1 : ¬ ((r.s : Nat) : Int) = (q.1 : Int) := by omega
                        clear eq1
                        go_wp2_with fail
                        all_goals go_meet
                        exact ⟨rfl, rfl⟩
                    case rest =>
                      obtain ⟨rfl, rfl⟩ := hcut
                      clear eq1
                      go_wp2_with fail
                      refine Calls.mono K42.out ?_
                      rintro e' w3 ⟨k1, a1, b1, c1', a1', b1', c1'', ok, rfl, hok, B3⟩
                      have BB3 : Hid (Below wc.heap.size wc w3) := B3
                      have HOK : Hid (Dir hs F (r.s, r.k) q → ok = true) := hok
                      clear K42 B3 hok
                      go_upto_region 22 with (refine wpList_store_row rfl 102 (.tmp 21) (.tmp 131) rfl w3.heap.size _ rfl rfl 102 _ (Blk.new _ _ _) hi102 rfl (by simp [Value.oneCell']) ?_)
                      obtain ⟨b21, hb21⟩ : ∃ b, b = w3.heap.size := ⟨_, rfl⟩
                      obtain ⟨W9, hW9⟩ : ∃ z : World, z = (w3.alloc (.cells #[.int .u8 0, .int .i64 0, .int .i64 0, .int .i64 0, .int .i64 0, .int .i64 0, .int .i64 0, .pointer none] 102)).setRow w3.heap.size #[.int .u8 k1, .int .i64 a1, .int .i64 b1, .int .i64 c1', .int .i64 a1', .int .i64 b1', .int .i64 c1'', .pointer none] := ⟨_, rfl⟩
                      have U9 : Hid (Below wc.heap.size wc W9) := by
                        have u : Upd [] w3 W9 := by
                          rw [hW9]
                          exact (Upd.alloc [] _ _).trans (updRow _ _ _) (fun k hk => by simp at hk; exact .inr (by omega))
                        exact BB3.out.trans (u.below BB3.out.size (by simp))
                      rw [← hW9, ← hb21]
                      have B9 : Hid (Blk W9 (b0 + 3) 102 #[.int .u8 0, .int .i64 0, .int .i64 0, .int .i64 0, .int .i64 0, .int .i64 0, .int .i64 0, .pointer none]) := (U9.out.block (b0 + 3) (by omega)).trans B2.out
                      have U79 : Hid (Upd [] W7 W9) := U2.out.trans (show Upd [] wc W9 from ⟨U9.out.os, U9.out.tape, U9.out.output, U9.out.size, fun k hk _ => U9.out.block k hk⟩) (by simp)
                      have v1 := U79.out.cell s1 (by simp)
                      have v2 := U79.out.cell s2 (by simp)
                      have v3 := U79.out.cell s3 (by simp)
                      have v4 := U79.out.cell s4 (by simp)
                      clear hW9 hb21 BB3 m0 m1 m2 m3 m4 m5 m6
                      cases ok with
                      | false =>
                        go_wp2_with fail
                        exact ⟨⟨e + 1, by omega, by go_num, NXH.out (NO.out (fun e' y _ _ _ _ h => by have := HOK.out h; cases this)), U79.out⟩, by simp [intOf] <;> omega⟩
                      | true =>
                        go_wp2_with (refine wpList_store_row rfl 102 (.tmp 8) (.tmp 146) rfl (b0 + 3) _ rfl rfl 102 _ B9.out hi102 rfl (by simp [Value.oneCell']) ?_)
                        refine bodyPost_ret (results_cell_row rfl _ _ (b0 + 3) 102 _ (0, 0) _ rfl (setRow_heap W9 (b0 + 3) _ _ 102 (0, 0) B9.out) Ybaz.underlying102 rfl hi102) rfl ?_
                        refine ⟨_, _, _, _, _, _, _, some ⟨b21, 0, none⟩, rfl, ?_⟩
                        refine (BF7.out.trans (U79.out.below BF7.out.size (by simp))).trans (Upd.below (S := [b0 + 3]) (updRow W9 (b0 + 3) _) (by have := BF7.out.size; have := U79.out.size; omega) (fun k hk => ?_))
                        have := HB0.out; simp at hk; omega
            · as_aux_lemma =>
              have NO : Hid (¬ OvC hs F p q v) := fun h => by have := h.1; omega
              rw [hk] at a0
              clear hat hk hu
              go_wp2_with fail
              exact ⟨⟨e + 1, by omega, by go_num, NXH.out NO.out, UR.out.trans (Upd.alloc [] _ _) (by simp)⟩, by simp [intOf] <;> omega⟩
          · as_aux_lemma =>
            exfalso
            obtain ⟨e', x, h1, h2⟩ := OV.out
            obtain ⟨l9, t9, z1, z2, z3⟩ := h1
            rw [L4.out] at z1; injection z1 with z1; subst z1
            rw [T4.out] at z2; injection z2 with z2; subst z2
            exact hn e' x (by have := (List.getElem?_eq_some_iff.mp z3).1; omega) z3 h2
end Go.Proofs.YbulkctquGreatFmt

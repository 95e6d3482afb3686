/-
  newSessionPolygraph, walked.
-/
import Derived.Test.YbulkctquGreatFmtNspZT
import Derived.Deep.RegionWith
import Derived.BigQuiet
import Derived.Deep.DeepCutAuto
namespace Go.Proofs.YbulkctquGreatFmt
open Go.ChangeShapes Go.WideShapes Go.ChangeAt Go.RowKit Go.Ord
set_option linter.unusedVariables false
attribute [-go_sem] Go.Builtin.append_ Go.Instr.buildSlice

abbrev pcR (p12 : Nat) (r : Rk) : Pc := ([p12], BlkIs p12 125 #[.int .i64 r.s, .int .i64 r.k, .int .u64 r.g, .bool r.t, .bool r.w])
set_option maxHeartbeats 16000000 in
set_option maxRecDepth 100000 in
theorem nsp14T (w : World) (R : HR) (hs : List (List Tx)) (H : HistE w R hs) (O : HOk hs) (cap b : Nat) (F : Nat → Option Wr) (hF : MapAt w (ik .u64) b (fun v => (F v).map Wr.val)) (W : WF hs F) (Q : ROk hs) (hm12 : (rksAll 0 hs).length ≤ 12) (hev : evAll hs ≤ 10000) (hvb : ∀ s k e x, At hs s k e x → x.v < 900 ∧ x.x < 900) :
    Calls Ybaz.prog 14 #[.agg #[.slice (some ⟨R.top, 0, none⟩) hs.length cap], .map (some b)] w (NspPostT w hs F) := by
  have H' : Hid _ := H
  have O' : Hid _ := O
  have WW : Hid _ := W
  have RO : Hid _ := Q
  have MF : Hid _ := hF
  have hbw : b < w.heap.size := hF.lt
  have I0 : Hid _ := LA.first w R.top hs.length cap
  have S1 := O.small
  have hbs1 := bs122
  have hbs2 := bs123
  clear H O W Q hF
  go_enter Ybaz.func14, Ybaz.ntmps14
  go_wp2_with fail
  obtain ⟨W3, hW3⟩ : ∃ z : World, z = ((w.alloc (.cells #[.slice (some ⟨R.top, 0, none⟩) hs.length cap] 29)).alloc (.cells #[.slice none 0 0] 122)).alloc (.cells #[.slice none 0 0] 123) := ⟨_, rfl⟩
  rw [← hW3] at I0 ⊢
  clear hW3
  rw [show w.heap.size + 1 + 1 = w.heap.size + 2 from rfl]
  go_loopw [58] (fun t58 wr => ∃ (s : Nat) (A : List Rk) (V fC fV : List Nat), s ≤ hs.length ∧ t58 = .int .i64 s ∧ Pcs w wr (LA w R.top hs.length cap A fC V fV) ∧ A ++ rksAll s (hs.drop s) = rksAll 0 hs ∧ V.length + evAll (hs.drop s) ≤ evAll hs) (fun u _ => hs.length - (intOf u).toNat)
  case atStart => exact ⟨0, [], [], [], [], by omega, rfl, I0.out, rfl, by simp⟩
  case round =>
    obtain ⟨s, A, V, fC, fV, hs1, rfl, h2, h3, h4⟩ := hrel
    have P1 : Hid _ := h2
    have EA : Hid (A ++ rksAll s (hs.drop s) = rksAll 0 hs) := h3
    have EV : Hid (V.length + evAll (hs.drop s) ≤ evAll hs) := h4
    clear h2 h3 h4
    by_cases hlt : s < hs.length
    · as_aux_lemma =>
      obtain ⟨l, hl3⟩ : ∃ l, hs[s]? = some l := ⟨_, List.getElem?_eq_getElem hlt⟩
      have L3 : Hid (hs[s]? = some l) := hl3
      obtain ⟨o, c1, c2⟩ := (H'.out.below P1.out.bel).base.ses s l hl3
      have C2 : Hid (l ≠ [] → o = some ⟨R.ses s, 0, none⟩) := c2
      have hll := O'.out.small2 l (List.mem_of_getElem? hl3)
      have EA2 : Hid (A ++ (rksRow s 0 (l.drop 0) ++ rksAll (s + 1) (hs.drop (s + 1))) = rksAll 0 hs) := by
        have := EA.out
        rw [drop_at hl3] at this
        exact this
      have EV2 : Hid (V.length + evRow (l.drop 0) + evAll (hs.drop (s + 1)) ≤ evAll hs) := by
        have := EV.out
        rw [drop_at hl3] at this
        simp only [evAll, List.map_cons, List.sum_cons] at this
        show V.length + evRow (l.drop 0) + evAll (hs.drop (s + 1)) ≤ evAll hs
        simp only [List.drop_zero, evAll]
        omega
      clear c2 hl3
      go_wp2_with fail
      clear c1
      go_loopw [65] (fun t65 wr => ∃ (k : Nat) (A : List Rk) (V fC fV : List Nat), k ≤ l.length ∧ t65 = .int .i64 k ∧ Pcs w wr (LA w R.top hs.length cap A fC V fV) ∧ A ++ (rksRow s k (l.drop k) ++ rksAll (s + 1) (hs.drop (s + 1))) = rksAll 0 hs ∧ V.length + evRow (l.drop k) + evAll (hs.drop (s + 1)) ≤ evAll hs) (fun u _ => l.length - (intOf u).toNat)
      case atStart => exact ⟨0, A, V, fC, fV, by omega, rfl, P1.out, EA2.out, EV2.out⟩
      case round =>
        obtain ⟨k, A, V, fC, fV, hk1, rfl, h2, h3, h4⟩ := hrel
        have P2 : Hid _ := h2
        have EA : Hid (A ++ (rksRow s k (l.drop k) ++ rksAll (s + 1) (hs.drop (s + 1))) = rksAll 0 hs) := h3
        have EV : Hid (V.length + evRow (l.drop k) + evAll (hs.drop (s + 1)) ≤ evAll hs) := h4
        clear h2 h3 h4
        by_cases hlt2 : k < l.length
        · obtain ⟨t, ht⟩ : ∃ t, l[k]? = some t := ⟨_, List.getElem?_eq_getElem hlt2⟩
          have T3 : Hid (l[k]? = some t) := ht
          obtain ⟨o2, c3, c4⟩ := (H'.out.below P2.out.bel).base.evs s l k t L3.out ht
          have c5 := (H'.out.below P2.out.bel).base.com s l k t L3.out ht
          have ho : o = some ⟨R.ses s, 0, none⟩ := C2.out (by intro h; rw [h] at hlt2; simp at hlt2)
          subst ho
          have C4 : Hid (t.evs ≠ [] → o2 = some ⟨R.evs s k, 0, none⟩) := c4
          have htl := O'.out.small3 l (List.mem_of_getElem? L3.out) t (List.mem_of_getElem? ht)
          have hdk := drop_at ht
          cases hcm : t.com with
          | false =>
            rw [hcm] at c5
            have EA2 : Hid (A ++ (rksRow s (k + 1) (l.drop (k + 1)) ++ rksAll (s + 1) (hs.drop (s + 1))) = rksAll 0 hs) := by
              have := EA.out
              rw [hdk] at this
              show A ++ (rksRow s (k + 1) (l.drop (k + 1)) ++ rksAll (s + 1) (hs.drop (s + 1))) = rksAll 0 hs
              simpa [rksRow, hcm] using this
            have EV2 : Hid (V.length + evRow (l.drop (k + 1)) + evAll (hs.drop (s + 1)) ≤ evAll hs) := by
              have := EV.out
              rw [hdk] at this
              simp only [evRow, List.map_cons, List.sum_cons] at this
              show V.length + evRow (l.drop (k + 1)) + evAll (hs.drop (s + 1)) ≤ evAll hs
              simp only [evRow]; omega
            clear hcm c4 ht hdk
            go_wp2_with fail
            exact ⟨⟨k + 1, A, V, fC, fV, by omega, by go_num, P2.out.keep (Upd.alloc [] _ _) (by simp), EA2.out, EV2.out⟩, by simp [intOf] <;> omega⟩
          | true => as_aux_lemma =>
            rw [hcm] at c5
            have EA2 : Hid (A ++ ([rkOf s k t] ++ (rksRow s (k + 1) (l.drop (k + 1)) ++ rksAll (s + 1) (hs.drop (s + 1)))) = rksAll 0 hs) := by
              have := EA.out
              rw [hdk] at this
              show A ++ ([rkOf s k t] ++ (rksRow s (k + 1) (l.drop (k + 1)) ++ rksAll (s + 1) (hs.drop (s + 1)))) = rksAll 0 hs
              simpa [rksRow, hcm] using this
            have EV2 : Hid (V.length + (t.evs.length - 0) + evRow (l.drop (k + 1)) + evAll (hs.drop (s + 1)) ≤ evAll hs) := by
              have := EV.out
              rw [hdk] at this
              simp only [evRow, List.map_cons, List.sum_cons] at this
              show V.length + (t.evs.length - 0) + evRow (l.drop (k + 1)) + evAll (hs.drop (s + 1)) ≤ evAll hs
              simp only [evRow]; omega
            clear hcm c4 ht hdk EA EV
            obtain ⟨wq, hwq⟩ : ∃ z : World, z = wr := ⟨_, rfl⟩
            subst hwq
            have PA : Hid (Pcs w ((wq.alloc (.cells #[.slice o2 t.evs.length (R.ec s k), .bool true] 39)).alloc (.cells #[.int .i64 s, .int .i64 k, .int .u64 0, .bool false, .bool false] 125)) (LA w R.top hs.length cap A fC V fV ++ [pcR (wq.heap.size + 1) ⟨s, k, 0, false, false⟩])) := by
              have p1 := P2.out.keep (Upd.alloc [] wq (.cells #[.slice o2 t.evs.length (R.ec s k), .bool true] 39)) (by simp)
              have b1 := Blk.new (wq.alloc (.cells #[.slice o2 t.evs.length (R.ec s k), .bool true] 39)) #[.int .i64 s, .int .i64 k, .int .u64 0, .bool false, .bool false] 125
              simp only [World.size_alloc] at b1
              exact p1.add (Upd.alloc [] _ _) (by simp) [wq.heap.size + 1] (BlkIs (wq.heap.size + 1) 125 _) b1 (BlkIs.keeps _ _ _) (by simp) (by simp)
            go_wp2_with fail
            clear c3 c5
            obtain ⟨W5, hW5⟩ : ∃ z : World, z = (wq.alloc (.cells #[.slice o2 t.evs.length (R.ec s k), .bool true] 39)).alloc (.cells #[.int .i64 s, .int .i64 k, .int .u64 0, .bool false, .bool false] 125) := ⟨_, rfl⟩
            obtain ⟨p12, hp12⟩ : ∃ z, z = wq.heap.size + 1 := ⟨_, rfl⟩
            rw [← hW5, ← hp12] at PA
            rw [← hW5, ← hp12]
            clear hW5 hp12 P2
            go_loopw [80] (fun t80 wr => ∃ (e : Nat) (r : Rk) (V fV : List Nat), e ≤ t.evs.length ∧ t80 = .int .i64 e ∧ Pcs w wr (LA w R.top hs.length cap A fC V fV ++ [pcR p12 r]) ∧ r = (t.evs.take e).foldl rkStep ⟨s, k, 0, false, false⟩ ∧ V.length + (t.evs.length - e) + evRow (l.drop (k + 1)) + evAll (hs.drop (s + 1)) ≤ evAll hs) (fun u _ => t.evs.length - (intOf u).toNat)
            case atStart => exact ⟨0, _, V, fV, by omega, rfl, PA.out, rfl, EV2.out⟩
            case round =>
              obtain ⟨e, r, V, fV, he1, rfl, h2, h3, h4⟩ := hrel
              have P3 : Hid _ := h2
              have ER : Hid (r = (t.evs.take e).foldl rkStep ⟨s, k, 0, false, false⟩) := h3
              clear h2 h3
              by_cases hlt3 : e < t.evs.length
              · as_aux_lemma =>
                obtain ⟨v, hv⟩ : ∃ v, t.evs[e]? = some v := ⟨_, List.getElem?_eq_getElem hlt3⟩
                have ho2 : o2 = some ⟨R.evs s k, 0, none⟩ := C4.out (by intro h; rw [h] at hlt3; simp at hlt3)
                subst ho2
                have HW := H'.out.below P3.out.bel
                have a0 := HW.ev s l k t e v 0 _ L3.out T3.out hv rfl
                have a1 := HW.ev s l k t e v 1 _ L3.out T3.out hv rfl
                have a2 := HW.ev s l k t e v 2 _ L3.out T3.out hv rfl
                have a3 := HW.ev s l k t e v 3 _ L3.out T3.out hv rfl
                simp only [Nat.add_zero] at a0
                have hat : At hs s k e v := ⟨l, t, L3.out, T3.out, hv⟩
                have hkd := O'.out.kind _ _ _ _ hat
                have hwi := O'.out.wi _ _ _ _ hat
                have HV : Hid (t.evs[e]? = some v) := hv
                have FT : Hid ((t.evs.take (e + 1)).foldl rkStep ⟨s, k, 0, false, false⟩ = rkStep r v) := by
                  show (t.evs.take (e + 1)).foldl rkStep ⟨s, k, 0, false, false⟩ = rkStep r v
                  rw [fold_take _ _ hv, ← ER.out]
                clear HW hv
                rcases hkd with hk | hk
                · rw [hk] at a0
                  have HK : Hid (v.k = 0) := hk
                  cases hi : v.i with
                  | true =>
                    rw [hi] at a3
                    have HI : Hid (v.i = true) := hi
                    clear hi hwi hat hk
                    have PX : Hid (Pcs w (wr.alloc (.cells #[.int .u8 0, .int .u64 v.x, .int .u64 v.v, .bool true] 37)) (LA w R.top hs.length cap A fC V fV ++ [pcR p12 r] ++ [([wr.heap.size], BlkIs wr.heap.size 37 #[.int .u8 0, .int .u64 v.x, .int .u64 v.v, .bool true])])) := P3.out.add (Upd.alloc [] _ _) (by simp) [wr.heap.size] _ (Blk.new _ _ _) (BlkIs.keeps _ _ _) (by simp) (by simp)
                    go_upto_region 16 with fail
                    clear a0 a1 a2 a3
                    obtain ⟨Wx, hWx⟩ : ∃ z : World, z = wr.alloc (.cells #[.int .u8 0, .int .u64 v.x, .int .u64 v.v, .bool true] 37) := ⟨_, rfl⟩
                    rw [← hWx] at PX ⊢
                    clear hWx
                    obtain ⟨pe, hpe⟩ : ∃ z, z = wr.heap.size := ⟨_, rfl⟩
                    rw [← hpe] at PX ⊢
                    clear hpe
                    have bE : Blk Wx pe 37 #[.int .u8 0, .int .u64 v.x, .int .u64 v.v, .bool true] := PX.out.mem (i := 4) rfl
                    have bR : Blk Wx p12 125 #[.int .i64 r.s, .int .i64 r.k, .int .u64 r.g, .bool r.t, .bool r.w] := PX.out.mem (i := 3) rfl
                    have e0 : Wx.cell? ⟨pe, 0, none⟩ = some (.int .u8 0) := bE.cell 0
                    have e2 : Wx.cell? ⟨pe, 2, none⟩ = some (.int .u64 v.v) := bE.cell 2
                    have e3 : Wx.cell? ⟨pe, 3, none⟩ = some (.bool true) := bE.cell 3
                    have r1 : Wx.cell? ⟨p12, 2, none⟩ = some (.int .u64 r.g) := bR.cell 2
                    have r2 : Wx.cell? ⟨p12, 3, none⟩ = some (.bool r.t) := bR.cell 3
                    have r3 : Wx.cell? ⟨p12, 4, none⟩ = some (.bool r.w) := bR.cell 4
                    have f1 := Blk.free bR 2
                    have f2 := Blk.free bR 3
                    have f3 := Blk.free bR 4
                    have NX : Hid (Pcs w Wx (LA w R.top hs.length cap A fC V fV ++ [pcR p12 r])) := PX.out.take 4
                    have ER2 : Hid (r = (t.evs.take (e + 1)).foldl rkStep ⟨s, k, 0, false, false⟩) := by
                      show r = (t.evs.take (e + 1)).foldl rkStep ⟨s, k, 0, false, false⟩
                      rw [FT.out, rkStep_no1 HI.out]
                    clear bE bR
                    go_wp2_with fail
                    exact ⟨⟨e + 1, r, _, _, by omega, by go_num, NX.out, ER2.out, by omega⟩, by simp [intOf] <;> omega⟩
                  | false =>
                    rw [hi] at a3
                    have HI : Hid (v.i = false) := hi
                    clear hi hwi hat hk
                    have PX : Hid (Pcs w (wr.alloc (.cells #[.int .u8 0, .int .u64 v.x, .int .u64 v.v, .bool false] 37)) (LA w R.top hs.length cap A fC V fV ++ [pcR p12 r] ++ [([wr.heap.size], BlkIs wr.heap.size 37 #[.int .u8 0, .int .u64 v.x, .int .u64 v.v, .bool false])])) := P3.out.add (Upd.alloc [] _ _) (by simp) [wr.heap.size] _ (Blk.new _ _ _) (BlkIs.keeps _ _ _) (by simp) (by simp)
                    go_upto_region 16 with fail
                    clear a0 a1 a2 a3
                    obtain ⟨Wx, hWx⟩ : ∃ z : World, z = wr.alloc (.cells #[.int .u8 0, .int .u64 v.x, .int .u64 v.v, .bool false] 37) := ⟨_, rfl⟩
                    rw [← hWx] at PX ⊢
                    clear hWx
                    obtain ⟨pe, hpe⟩ : ∃ z, z = wr.heap.size := ⟨_, rfl⟩
                    rw [← hpe] at PX ⊢
                    clear hpe
                    have bE : Blk Wx pe 37 #[.int .u8 0, .int .u64 v.x, .int .u64 v.v, .bool false] := PX.out.mem (i := 4) rfl
                    have bR : Blk Wx p12 125 #[.int .i64 r.s, .int .i64 r.k, .int .u64 r.g, .bool r.t, .bool r.w] := PX.out.mem (i := 3) rfl
                    have e0 : Wx.cell? ⟨pe, 0, none⟩ = some (.int .u8 0) := bE.cell 0
                    have e2 : Wx.cell? ⟨pe, 2, none⟩ = some (.int .u64 v.v) := bE.cell 2
                    have e3 : Wx.cell? ⟨pe, 3, none⟩ = some (.bool false) := bE.cell 3
                    have r1 : Wx.cell? ⟨p12, 2, none⟩ = some (.int .u64 r.g) := bR.cell 2
                    have r2 : Wx.cell? ⟨p12, 3, none⟩ = some (.bool r.t) := bR.cell 3
                    have r3 : Wx.cell? ⟨p12, 4, none⟩ = some (.bool r.w) := bR.cell 4
                    have f1 := Blk.free bR 2
                    have f2 := Blk.free bR 3
                    have f3 := Blk.free bR 4
                    cases ht : r.t with
                    | false =>
                      rw [ht] at r2
                      have HC : r.t = false ∨ r.g < v.v := .inl ht
                      clear ht
                      have NX : Hid (Pcs w ((((Wx.setCell ⟨p12, 2, none⟩ (.int .u64 v.v)).setCell ⟨p12, 3, none⟩ (.bool true)).setCell ⟨p12, 4, none⟩ (.bool false)).drew) (LA w R.top hs.length cap A fC V fV ++ [pcR p12 ⟨r.s, r.k, v.v, true, false⟩])) := by
                        have bS : BlkIs p12 125 #[.int .i64 r.s, .int .i64 r.k, .int .u64 v.v, .bool true, .bool false] ((((Wx.setCell ⟨p12, 2, none⟩ (.int .u64 v.v)).setCell ⟨p12, 3, none⟩ (.bool true)).setCell ⟨p12, 4, none⟩ (.bool false)).drew) := Blk.keep (Blk.store (Blk.store (Blk.store bR 2 (.int .u64 v.v)) 3 (.bool true)) 4 (.bool false)) (Upd.drew [] _) (by simp)
                        have uS : Upd [p12] Wx ((((Wx.setCell ⟨p12, 2, none⟩ (.int .u64 v.v)).setCell ⟨p12, 3, none⟩ (.bool true)).setCell ⟨p12, 4, none⟩ (.bool false)).drew) := (((Upd.store _ _ _ _).trans (Upd.store _ _ _ _) (by simp)).trans (Upd.store _ _ _ _) (by simp)).trans (Upd.drew [] _) (by simp)
                        exact ((PX.out.put (i := 3) rfl uS bS (BlkIs.keeps _ _ _) (fun x hx => ⟨.inl hx, by simp at hx; subst hx; exact Blk.lt bS⟩) (by simp)).take 4)
                      have ER2 : Hid ((⟨r.s, r.k, v.v, true, false⟩ : Rk) = (t.evs.take (e + 1)).foldl rkStep ⟨s, k, 0, false, false⟩) := by
                        show (⟨r.s, r.k, v.v, true, false⟩ : Rk) = (t.evs.take (e + 1)).foldl rkStep ⟨s, k, 0, false, false⟩
                        rw [FT.out, rkStep_yes HI.out HC, HK.out]; rfl
                      clear bE bR HC
                      go_upto_region 17 with fail
                      go_big_region
                      go_wp2_with fail
                      exact ⟨⟨e + 1, _, _, _, by omega, by go_num, NX.out, ER2.out, by omega⟩, by simp [intOf] <;> omega⟩
                    | true =>
                      have HT : Hid (r.t = true) := ht
                      rw [ht] at r2
                      clear ht
                      by_cases hg : r.g < v.v
                      · have HC : r.t = false ∨ r.g < v.v := .inr hg
                        have hg9 : (r.g : Int) < (v.v : Int) := by omega
                        have NX : Hid (Pcs w ((((Wx.setCell ⟨p12, 2, none⟩ (.int .u64 v.v)).setCell ⟨p12, 3, none⟩ (.bool true)).setCell ⟨p12, 4, none⟩ (.bool false)).drew) (LA w R.top hs.length cap A fC V fV ++ [pcR p12 ⟨r.s, r.k, v.v, true, false⟩])) := by
                          have bS : BlkIs p12 125 #[.int .i64 r.s, .int .i64 r.k, .int .u64 v.v, .bool true, .bool false] ((((Wx.setCell ⟨p12, 2, none⟩ (.int .u64 v.v)).setCell ⟨p12, 3, none⟩ (.bool true)).setCell ⟨p12, 4, none⟩ (.bool false)).drew) := Blk.keep (Blk.store (Blk.store (Blk.store bR 2 (.int .u64 v.v)) 3 (.bool true)) 4 (.bool false)) (Upd.drew [] _) (by simp)
                          have uS : Upd [p12] Wx ((((Wx.setCell ⟨p12, 2, none⟩ (.int .u64 v.v)).setCell ⟨p12, 3, none⟩ (.bool true)).setCell ⟨p12, 4, none⟩ (.bool false)).drew) := (((Upd.store _ _ _ _).trans (Upd.store _ _ _ _) (by simp)).trans (Upd.store _ _ _ _) (by simp)).trans (Upd.drew [] _) (by simp)
                          exact ((PX.out.put (i := 3) rfl uS bS (BlkIs.keeps _ _ _) (fun x hx => ⟨.inl hx, by simp at hx; subst hx; exact Blk.lt bS⟩) (by simp)).take 4)
                        have ER2 : Hid ((⟨r.s, r.k, v.v, true, false⟩ : Rk) = (t.evs.take (e + 1)).foldl rkStep ⟨s, k, 0, false, false⟩) := by
                          show (⟨r.s, r.k, v.v, true, false⟩ : Rk) = (t.evs.take (e + 1)).foldl rkStep ⟨s, k, 0, false, false⟩
                          rw [FT.out, rkStep_yes HI.out HC, HK.out]; rfl
                        clear bE bR HC
                        go_upto_region 17 with fail
                        go_big_region
                        go_wp2_with fail
                        exact ⟨⟨e + 1, _, _, _, by omega, by go_num, NX.out, ER2.out, by omega⟩, by simp [intOf] <;> omega⟩
                      · have hg9 : ¬ ((r.g : Int) < (v.v : Int)) := by omega
                        have NX : Hid (Pcs w Wx (LA w R.top hs.length cap A fC V fV ++ [pcR p12 r])) := PX.out.take 4
                        have ER2 : Hid (r = (t.evs.take (e + 1)).foldl rkStep ⟨s, k, 0, false, false⟩) := by
                          show r = (t.evs.take (e + 1)).foldl rkStep ⟨s, k, 0, false, false⟩
                          rw [FT.out, rkStep_no2 HT.out hg]
                        clear bE bR
                        go_wp2_with fail
                        exact ⟨⟨e + 1, r, _, _, by omega, by go_num, NX.out, ER2.out, by omega⟩, by simp [intOf] <;> omega⟩
                · rw [hk] at a0
                  have hvi := hwi hk
                  rw [hvi] at a3
                  have HK : Hid (v.k = 1) := hk
                  have HI : Hid (v.i = false) := hvi
                  clear hwi hat hk hvi
                  have PE : Hid (Pcs w (wr.alloc (.cells #[.int .u8 1, .int .u64 v.x, .int .u64 v.v, .bool false] 37)) (LA w R.top hs.length cap A fC V fV ++ [pcR p12 r] ++ [([wr.heap.size], BlkIs wr.heap.size 37 #[.int .u8 1, .int .u64 v.x, .int .u64 v.v, .bool false])])) := P3.out.add (Upd.alloc [] _ _) (by simp) [wr.heap.size] _ (Blk.new _ _ _) (BlkIs.keeps _ _ _) (by simp) (by simp)
                  go_upto_region 15 with fail
                  clear a0 a1 a2 a3
                  obtain ⟨Wy, hWy⟩ : ∃ z : World, z = wr.alloc (.cells #[.int .u8 1, .int .u64 v.x, .int .u64 v.v, .bool false] 37) := ⟨_, rfl⟩
                  rw [← hWy] at PE ⊢
                  clear hWy
                  have BV : BoxL (w.heap.size + 2) 0 35 1 V.length fV (V.map (ik .u64)) Wy := PE.out.mem (i := 2) rfl
                  obtain ⟨aV, cV, g1, g2, g3⟩ := BV.lies
                  have bE : Blk Wy wr.heap.size 37 #[.int .u8 1, .int .u64 v.x, .int .u64 v.v, .bool false] := PE.out.mem (i := 4) rfl
                  have n2 : Wy.cell? ⟨wr.heap.size, 2, none⟩ = some (.int .u64 v.v) := bE.cell 2
                  have hb2 := World.block_lt_of_cell? _ _ g1
                  obtain ⟨gR, cR', w1, hrun, hS1, hU1, hF1⟩ := run_appended Wy (Wy.alloc (.cells [Value.int .u64 v.v].toArray 35)) 123 123 35 1 8 slVers (by decide) aV V.length cV fV (V.map (ik .u64)) g3 [.int .u64 v.v] rfl (by simp [Value.oneCell']) (by omega) (Upd.refl _ _)
                  have p2 := hU1.cell g1 BV.nb
                  have p3 := hU1.free hb2 g2 BV.nb
                  obtain ⟨y1, y2, y3⟩ := BV.put g1 hS1 hU1 hF1
                  have PX : Hid (Pcs w (w1.setCell ⟨w.heap.size + 2, 0, none⟩ (.slice (some ⟨gR, 0, none⟩) (V.length + 1) cR')) (LA w R.top hs.length cap A fC (V ++ [v.v]) [gR] ++ [pcR p12 r] ++ [([wr.heap.size], BlkIs wr.heap.size 37 #[.int .u8 1, .int .u64 v.x, .int .u64 v.v, .bool false])])) := by
                    have yy := PE.out.put (i := 2) rfl y2 y1 (BoxL.keeps _ _ _ _ _ _ _) y3 (by simpa using fun z => y1.nb (by simp [z]))
                    have e1 : (V ++ [v.v]).length = V.length + 1 := by simp
                    have e2 : (V ++ [v.v]).map (ik .u64) = V.map (ik .u64) ++ [.int .u64 v.v] := by simp [ik]
                    show Pcs w _ [_, _, _, _, _]
                    rw [e1, e2]
                    exact yy
                  clear BV g3 bE hS1 hU1 hF1 y1 y2 y3
                  go_upto_region 16 with fail
                  clear hrun g1 g2 n2 p2 p3 hb2
                  obtain ⟨Wx, hWx⟩ : ∃ z : World, z = w1.setCell ⟨w.heap.size + 2, 0, none⟩ (.slice (some ⟨gR, 0, none⟩) (V.length + 1) cR') := ⟨_, rfl⟩
                  rw [← hWx] at PX ⊢
                  clear hWx
                  obtain ⟨pe, hpe⟩ : ∃ z, z = wr.heap.size := ⟨_, rfl⟩
                  rw [← hpe] at PX ⊢
                  clear hpe
                  have bE : Blk Wx pe 37 #[.int .u8 1, .int .u64 v.x, .int .u64 v.v, .bool false] := PX.out.mem (i := 4) rfl
                  have bR : Blk Wx p12 125 #[.int .i64 r.s, .int .i64 r.k, .int .u64 r.g, .bool r.t, .bool r.w] := PX.out.mem (i := 3) rfl
                  have e0 : Wx.cell? ⟨pe, 0, none⟩ = some (.int .u8 1) := bE.cell 0
                  have e2 : Wx.cell? ⟨pe, 2, none⟩ = some (.int .u64 v.v) := bE.cell 2
                  have e3 : Wx.cell? ⟨pe, 3, none⟩ = some (.bool false) := bE.cell 3
                  have r1 : Wx.cell? ⟨p12, 2, none⟩ = some (.int .u64 r.g) := bR.cell 2
                  have r2 : Wx.cell? ⟨p12, 3, none⟩ = some (.bool r.t) := bR.cell 3
                  have r3 : Wx.cell? ⟨p12, 4, none⟩ = some (.bool r.w) := bR.cell 4
                  have f1 := Blk.free bR 2
                  have f2 := Blk.free bR 3
                  have f3 := Blk.free bR 4
                  cases ht : r.t with
                  | false =>
                    rw [ht] at r2
                    have HC : r.t = false ∨ r.g < v.v := .inl ht
                    clear ht
                    have NX : Hid (Pcs w ((((Wx.setCell ⟨p12, 2, none⟩ (.int .u64 v.v)).setCell ⟨p12, 3, none⟩ (.bool true)).setCell ⟨p12, 4, none⟩ (.bool true)).drew) (LA w R.top hs.length cap A fC (V ++ [v.v]) [gR] ++ [pcR p12 ⟨r.s, r.k, v.v, true, true⟩])) := by
                      have bS : BlkIs p12 125 #[.int .i64 r.s, .int .i64 r.k, .int .u64 v.v, .bool true, .bool true] ((((Wx.setCell ⟨p12, 2, none⟩ (.int .u64 v.v)).setCell ⟨p12, 3, none⟩ (.bool true)).setCell ⟨p12, 4, none⟩ (.bool true)).drew) := Blk.keep (Blk.store (Blk.store (Blk.store bR 2 (.int .u64 v.v)) 3 (.bool true)) 4 (.bool true)) (Upd.drew [] _) (by simp)
                      have uS : Upd [p12] Wx ((((Wx.setCell ⟨p12, 2, none⟩ (.int .u64 v.v)).setCell ⟨p12, 3, none⟩ (.bool true)).setCell ⟨p12, 4, none⟩ (.bool true)).drew) := (((Upd.store _ _ _ _).trans (Upd.store _ _ _ _) (by simp)).trans (Upd.store _ _ _ _) (by simp)).trans (Upd.drew [] _) (by simp)
                      exact ((PX.out.put (i := 3) rfl uS bS (BlkIs.keeps _ _ _) (fun x hx => ⟨.inl hx, by simp at hx; subst hx; exact Blk.lt bS⟩) (by simp)).take 4)
                    have ER2 : Hid ((⟨r.s, r.k, v.v, true, true⟩ : Rk) = (t.evs.take (e + 1)).foldl rkStep ⟨s, k, 0, false, false⟩) := by
                      show (⟨r.s, r.k, v.v, true, true⟩ : Rk) = (t.evs.take (e + 1)).foldl rkStep ⟨s, k, 0, false, false⟩
                      rw [FT.out, rkStep_yes HI.out HC, HK.out]; rfl
                    clear bE bR HC
                    go_upto_region 17 with fail
                    go_big_region
                    go_wp2_with fail
                    exact ⟨⟨e + 1, _, _, _, by omega, by go_num, NX.out, ER2.out, by simp only [List.length_append, List.length_singleton]; omega⟩, by simp [intOf] <;> omega⟩
                  | true =>
                    have HT : Hid (r.t = true) := ht
                    rw [ht] at r2
                    clear ht
                    by_cases hg : r.g < v.v
                    · have HC : r.t = false ∨ r.g < v.v := .inr hg
                      have hg9 : (r.g : Int) < (v.v : Int) := by omega
                      have NX : Hid (Pcs w ((((Wx.setCell ⟨p12, 2, none⟩ (.int .u64 v.v)).setCell ⟨p12, 3, none⟩ (.bool true)).setCell ⟨p12, 4, none⟩ (.bool true)).drew) (LA w R.top hs.length cap A fC (V ++ [v.v]) [gR] ++ [pcR p12 ⟨r.s, r.k, v.v, true, true⟩])) := by
                        have bS : BlkIs p12 125 #[.int .i64 r.s, .int .i64 r.k, .int .u64 v.v, .bool true, .bool true] ((((Wx.setCell ⟨p12, 2, none⟩ (.int .u64 v.v)).setCell ⟨p12, 3, none⟩ (.bool true)).setCell ⟨p12, 4, none⟩ (.bool true)).drew) := Blk.keep (Blk.store (Blk.store (Blk.store bR 2 (.int .u64 v.v)) 3 (.bool true)) 4 (.bool true)) (Upd.drew [] _) (by simp)
                        have uS : Upd [p12] Wx ((((Wx.setCell ⟨p12, 2, none⟩ (.int .u64 v.v)).setCell ⟨p12, 3, none⟩ (.bool true)).setCell ⟨p12, 4, none⟩ (.bool true)).drew) := (((Upd.store _ _ _ _).trans (Upd.store _ _ _ _) (by simp)).trans (Upd.store _ _ _ _) (by simp)).trans (Upd.drew [] _) (by simp)
                        exact ((PX.out.put (i := 3) rfl uS bS (BlkIs.keeps _ _ _) (fun x hx => ⟨.inl hx, by simp at hx; subst hx; exact Blk.lt bS⟩) (by simp)).take 4)
                      have ER2 : Hid ((⟨r.s, r.k, v.v, true, true⟩ : Rk) = (t.evs.take (e + 1)).foldl rkStep ⟨s, k, 0, false, false⟩) := by
                        show (⟨r.s, r.k, v.v, true, true⟩ : Rk) = (t.evs.take (e + 1)).foldl rkStep ⟨s, k, 0, false, false⟩
                        rw [FT.out, rkStep_yes HI.out HC, HK.out]; rfl
                      clear bE bR HC
                      go_upto_region 17 with fail
                      go_big_region
                      go_wp2_with fail
                      exact ⟨⟨e + 1, _, _, _, by omega, by go_num, NX.out, ER2.out, by simp only [List.length_append, List.length_singleton]; omega⟩, by simp [intOf] <;> omega⟩
                    · have hg9 : ¬ ((r.g : Int) < (v.v : Int)) := by omega
                      have NX : Hid (Pcs w Wx (LA w R.top hs.length cap A fC (V ++ [v.v]) [gR] ++ [pcR p12 r])) := PX.out.take 4
                      have ER2 : Hid (r = (t.evs.take (e + 1)).foldl rkStep ⟨s, k, 0, false, false⟩) := by
                        show r = (t.evs.take (e + 1)).foldl rkStep ⟨s, k, 0, false, false⟩
                        rw [FT.out, rkStep_no2 HT.out hg]
                      clear bE bR
                      go_wp2_with fail
                      exact ⟨⟨e + 1, r, _, _, by omega, by go_num, NX.out, ER2.out, by simp only [List.length_append, List.length_singleton]; omega⟩, by simp [intOf] <;> omega⟩
              · as_aux_lemma =>
                have he2 : e = t.evs.length := by omega
                have ER2 : Hid (r = rkOf s k t) := by
                  have := ER.out
                  rw [he2, List.take_length] at this
                  exact this
                have LB : Hid (V.length + evRow (l.drop (k + 1)) + evAll (hs.drop (s + 1)) ≤ evAll hs) := by
                  show V.length + evRow (l.drop (k + 1)) + evAll (hs.drop (s + 1)) ≤ evAll hs
                  omega
                have hA12 : A.length ≤ 12 := by
                  have := congrArg List.length EA2.out
                  simp only [List.length_append] at this
                  omega
                have BC : BoxL (w.heap.size + 1) 0 125 5 A.length fC (A.flatMap Rk.cells) wr := P3.out.mem (i := 1) rfl
                have bR : Blk wr p12 125 #[.int .i64 r.s, .int .i64 r.k, .int .u64 r.g, .bool r.t, .bool r.w] := P3.out.mem (i := 3) rfl
                obtain ⟨aC, cC, g1, g2, g3⟩ := BC.lies
                have r0 : wr.cell? ⟨p12, 0, none⟩ = some (.int .i64 r.s) := bR.cell 0
                have r1 : wr.cell? ⟨p12, 1, none⟩ = some (.int .i64 r.k) := bR.cell 1
                have r2 : wr.cell? ⟨p12, 2, none⟩ = some (.int .u64 r.g) := bR.cell 2
                have r3 : wr.cell? ⟨p12, 3, none⟩ = some (.bool r.t) := bR.cell 3
                have r4 : wr.cell? ⟨p12, 4, none⟩ = some (.bool r.w) := bR.cell 4
                have hb2 := World.block_lt_of_cell? _ _ g1
                have G3 : Hid _ := g3
                have NB : Hid (w.heap.size + 1 ∉ fC) := BC.nb
                have hAn : A.length < 1000000000000 := by omega
                have EA3 : Hid ((A ++ [rkOf s k t]) ++ (rksRow s (k + 1) (l.drop (k + 1)) ++ rksAll (s + 1) (hs.drop (s + 1))) = rksAll 0 hs) := by
                  show (A ++ [rkOf s k t]) ++ (rksRow s (k + 1) (l.drop (k + 1)) ++ rksAll (s + 1) (hs.drop (s + 1))) = rksAll 0 hs
                  rw [List.append_assoc]; exact EA2.out
                clear g3 bR he2 h4 BC
                go_wp2_with (at_builtin; refine wpList_append_elem wr _ (Upd.refl [] _) rfl (.tmp 116) (.tmp 118) 122 rfl 125 5 32 slRks (by decide) aC A.length cC fC (A.flatMap Rk.cells) rfl G3.out (by simp) [.int .i64 r.s, .int .i64 r.k, .int .u64 r.g, .bool r.t, .bool r.w] rfl (by simp [Value.oneCell']) _ _ rfl (by simp) hAn ?_; intro gR cR' w1 hS1 hU1 hF1; go_loud (have p2 := hU1.cell g1 (by simpa using NB.out)); go_loud (have p3 := hU1.free hb2 g2 (by simpa using NB.out)); have HS1 : Hid _ := hS1; have HU1 : Hid _ := hU1; have HF1 : Hid _ := hF1; clear hS1 hU1 hF1)
                have BC : BoxL (w.heap.size + 1) 0 125 5 A.length fC (A.flatMap Rk.cells) wr := P3.out.mem (i := 1) rfl
                obtain ⟨y1, y2, y3⟩ := BC.put g1 HS1.out HU1.out HF1.out
                have PX : Hid (Pcs w (w1.setCell ⟨w.heap.size + 1, 0, none⟩ (.slice (some ⟨gR, 0, none⟩) (A.length + 1) cR')) (LA w R.top hs.length cap (A ++ [rkOf s k t]) [gR] V fV)) := by
                  have yy := (P3.out.put (i := 1) rfl y2 y1 (BoxL.keeps _ _ _ _ _ _ _) y3 (by simpa using fun z => y1.nb (by simp [z]))).take 3
                  have e1 : (A ++ [rkOf s k t]).length = A.length + 1 := by simp
                  have e2 : (A ++ [rkOf s k t]).flatMap Rk.cells = A.flatMap Rk.cells ++ [.int .i64 r.s, .int .i64 r.k, .int .u64 r.g, .bool r.t, .bool r.w] := by rw [← ER2.out]; simp [Rk.cells]
                  show Pcs w _ [_, _, _]
                  rw [e1, e2]
                  exact yy
                exact ⟨⟨k + 1, _, V, [gR], fV, by omega, by go_num, PX.out, EA3.out, LB.out⟩, by simp [intOf] <;> omega⟩
        · have hk2 : k = l.length := by omega
          have EA2 : Hid (A ++ rksAll (s + 1) (hs.drop (s + 1)) = rksAll 0 hs) := by
            have := EA.out
            rw [hk2, List.drop_length] at this
            exact this
          have EV2 : Hid (V.length + evAll (hs.drop (s + 1)) ≤ evAll hs) := by
            have := EV.out
            rw [hk2, List.drop_length] at this
            show V.length + evAll (hs.drop (s + 1)) ≤ evAll hs
            simpa [evRow] using this
          clear hk2
          go_wp2_with fail
          exact ⟨⟨s + 1, A, V, fC, fV, by omega, by go_num, P2.out, EA2.out, EV2.out⟩, by simp [intOf] <;> omega⟩
    · as_aux_lemma =>
      have hs2 : s = hs.length := by omega
      have EA2 : Hid (A = rksAll 0 hs) := by
        have := EA.out
        rw [hs2, List.drop_length] at this
        show A = rksAll 0 hs
        simpa [rksAll] using this
      have hV : V.length ≤ 10000 := by have := EV.out; omega
      have hA : A.length ≤ 12 := by rw [EA2.out]; exact hm12
      clear hs2 EA EV
      obtain ⟨wq, hwq⟩ : ∃ z : World, z = wr := ⟨_, rfl⟩
      subst hwq
      have BV : BoxL (w.heap.size + 2) 0 35 1 V.length fV (V.map (ik .u64)) wq := P1.out.mem (i := 2) rfl
      obtain ⟨aV, cV, g1, g2, g3⟩ := BV.lies
      have HC : Hid (Calls Ybaz.prog 28 #[.slice aV V.length cV] wq fun e w' => e = .returned (.tuple #[]) ∧ Pcs w w' (LB w R.top hs.length cap A fC V.length fV)) := by
        rcases g3.lies with ⟨e1, e2, e3, e4⟩ | ⟨gb, cur, e1, e2, e3, e4⟩
        · have hh : Calls Ybaz.prog 28 #[.slice aV V.length cV] wq (fun e w' => e = .returned (.tuple #[]) ∧ w' = wq) := by rw [e1, e2, e3]; exact sort0 wq
          refine hh.mono ?_
          rintro e w' ⟨rfl, rfl⟩
          refine ⟨rfl, P1.out.conv (i := 2) rfl ⟨aV, cV, g1, fun hn => by omega⟩ (VerU.keeps _ _ _)⟩
        · rw [e1]
          rw [e1] at g3
          refine (sort64 gb V.length cV (by omega) wq (urow_of g3) e3.lt).mono ?_
          rintro e w' ⟨rfl, hd⟩
          refine ⟨rfl, P1.out.put (i := 2) rfl (hd.upd.mono (fun k hk => .inl (by simp at hk; subst hk; rw [e2]; simp))) (P' := VerU (w.heap.size + 2) V.length fV) ⟨some ⟨gb, 0, none⟩, cV, ?_, fun hn => ⟨gb, rfl, by rw [e2]; simp, hd.row⟩⟩ (VerU.keeps _ _ _) (fun x hx => ⟨.inl hx, ?_⟩) ?_⟩
          · rw [e1] at g1
            refine hd.upd.cell g1 ?_
            have := BV.nb
            rw [e2] at this
            simpa using this
          · have := P1.out.lt (i := 2) rfl x hx
            have := hd.upd.size
            omega
          · exact List.nodup_cons.mpr ⟨BV.nb, BV.nd⟩
      clear BV g2 g3
      go_wp2_with fail
      refine HC.out.mono ?_
      rintro e w1 ⟨rfl, p9⟩
      have P2 : Hid _ := p9
      clear p9 g1 P1
      have BC : BoxL (w.heap.size + 1) 0 125 5 A.length fC (A.flatMap Rk.cells) w1 := P2.out.mem (i := 1) rfl
      obtain ⟨aC, cC, g1, g2, g3⟩ := BC.lies
      have hb2 := World.block_lt_of_cell? _ _ g1
      have hm := mkInts.made A.length A.length (Nat.le_refl _) (by omega) (by decide)
      have P3 : Hid (Pcs w (w1.alloc (.cells (zeros (.int .i64 0) A.length).toArray 3)) (LB w R.top hs.length cap A fC V.length fV ++ [([w1.heap.size], MarksAt w1.heap.size A.length (List.replicate A.length 0))])) := P2.out.add (Upd.alloc [] _ _) (by simp) [w1.heap.size] _ (MarksAt.made w1 A.length (by omega)) (MarksAt.keeps _ _ _) (by simp) (by simp)
      clear BC g2 g3
      go_wp2_with fail
      clear hm g1
      obtain ⟨W5, hW5⟩ : ∃ z : World, z = w1.alloc (.cells (zeros (.int .i64 0) A.length).toArray 3) := ⟨_, rfl⟩
      obtain ⟨bF, hbF⟩ : ∃ z, z = w1.heap.size := ⟨_, rfl⟩
      rw [← hW5, ← hbF] at P3
      rw [← hW5, ← hbF]
      clear hW5 hbF P2 hb2
      go_loopw [130] (fun t130 wr => ∃ (i : Nat) (M : List Nat), i ≤ A.length ∧ t130 = .int .i64 i ∧ Pcs w wr (LB w R.top hs.length cap A fC V.length fV ++ [([bF], MarksAt bF A.length M)]) ∧ M.length = A.length ∧ M.take i = List.range i) (fun u _ => A.length - (intOf u).toNat)
      case atStart => exact ⟨0, _, by omega, rfl, P3.out, by simp, by simp⟩
      case round =>
        obtain ⟨i, M, hi1, rfl, h2, h3, h4⟩ := hrel
        have P4 : Hid _ := h2
        have HM : Hid (M.take i = List.range i) := h4
        clear h2 h4
        by_cases hlti : i < A.length
        · as_aux_lemma =>
          have AF : MarksAt bF A.length M wr := P4.out.mem (i := 3) rfl
          obtain ⟨v0, hv0⟩ := has_at M (k := i) (by omega)
          obtain ⟨cm, zm⟩ := AF.get hv0
          have P' : Hid (Pcs w (wr.setCell ⟨bF, i, none⟩ (.int .i64 i)) (LB w R.top hs.length cap A fC V.length fV ++ [([bF], MarksAt bF A.length (M.set i i))])) := P4.out.put (i := 3) rfl (Upd.store _ _ _ _) (AF.set i i) (MarksAt.keeps _ _ _) (fun y hy => ⟨.inl hy, by simp at hy; subst hy; have := World.block_lt_of_cell? _ _ cm; simpa [World.setCell] using this⟩) (by simp)
          have HM2 : Hid ((M.set i i).take (i + 1) = List.range (i + 1)) := by
            show (M.set i i).take (i + 1) = List.range (i + 1)
            rw [List.take_add_one, List.getElem?_set_self (by omega), List.take_set_of_le (Nat.le_refl _), HM.out, List.range_succ]
            rfl
          clear AF hv0
          go_wp2_with fail
          exact ⟨⟨i + 1, _, by omega, by go_num, P'.out, by simpa using h3, HM2.out⟩, by simp [intOf] <;> omega⟩
        · as_aux_lemma =>
          have hi2 : i = A.length := by omega
          have HM2 : Hid (M = List.range A.length) := by
            have := HM.out
            rw [hi2, ← h3, List.take_length] at this
            rw [← h3]; exact this
          clear hi2 HM
          have AF : MarksAt bF A.length M wr := P4.out.mem (i := 3) rfl
          have BC : BoxL (w.heap.size + 1) 0 125 5 A.length fC (A.flatMap Rk.cells) wr := P4.out.mem (i := 1) rfl
          obtain ⟨aC, cC, g1, g2, g3⟩ := BC.lies
          have hne : w.heap.size + 1 ≠ bF := fun z => P4.out.apart (i := 1) (j := 3) rfl rfl (by decide) (w.heap.size + 1) (by simp) (by simp [z])
          have HC : Hid (Calls Ybaz.prog 31 #[.slice (some ⟨bF, 0, none⟩) A.length A.length, .func (.func 32) #[] #[.pointer (some ⟨w.heap.size + 1, 0, none⟩)]] wr fun e w' => e = .returned (.tuple #[]) ∧ ∃ zs : List Nat, zs.Perm (List.range A.length) ∧ Sorted A zs ∧ Pcs w w' (LB w R.top hs.length cap A fC V.length fV ++ [([bF], MarksAt bF A.length zs)])) := by
            have hS : Sl wr 3 1 (some ⟨bF, 0, none⟩) A.length A.length [bF] ((List.range A.length).map nI) := by rw [← HM2.out]; exact AF
            refine (stable31 A.length hA A rfl wr bF A.length (w.heap.size + 1) cC aC hS g1 (fun hm => ?_) hne).mono ?_
            · obtain ⟨C, q1, q2, q3, q4, _⟩ := g3.has hm
              refine ⟨C, q1, fun z => P4.out.apart (i := 1) (j := 3) rfl rfl (by decide) C (by rw [q2]; simp) (by simp [z]), fun i r j v hi hj => ?_⟩
              have hil := (List.getElem?_eq_some_iff.mp hi).1
              have hjl := (List.getElem?_eq_some_iff.mp hj).1
              have hj5 : j < 5 := hjl
              rw [q4 (i * 5 + j) (by omega), flat3 Rk.cells 5 (fun _ => rfl) A i j r hi hj5]
              exact hj
            · rintro e w' ⟨rfl, zs, k1, k2, k3, k4⟩
              refine ⟨rfl, zs, k1, k2, P4.out.put (i := 3) rfl k4 k3 (MarksAt.keeps _ _ _) (fun x hx => ⟨.inl hx, k3.lt x hx⟩) (by simp)⟩
          clear AF BC g2 g3
          go_wp2_with fail
          refine HC.out.mono ?_
          rintro e w2 ⟨rfl, zs, k1, k2, p9⟩
          have P5 : Hid _ := p9
          have ZP : Hid (zs.Perm (List.range A.length)) := k1
          have ZS : Hid (Sorted A zs) := k2
          clear p9 k1 k2 g1 HC P4 HM2
          have hm1 := mkStr.made A.length A.length (Nat.le_refl _) (by omega) (by decide)
          have hm2 := mkTxs.made A.length A.length (Nat.le_refl _) (by omega) (by decide)
          have hmm := fun (k : Nat) (w : World) => makeMap_hint (P := Ybaz.prog) Ybaz.underlying134 k w
          have P6 : Hid _ := LD.first P5.out (by omega)
          go_wp2_with fail
          clear hm1 hm2 hmm P5 HC
          obtain ⟨W7, hW7⟩ : ∃ z : World, z = ldW w2 bF A.length := ⟨_, rfl⟩
          rw [show ((((w2.alloc (.cells (zeros (.string ⟨#[]⟩) A.length).toArray 9)).alloc (.cells #[.slice (some ⟨w2.heap.size, 0, none⟩) A.length A.length, .slice (some ⟨bF, 0, none⟩) A.length A.length, .slice none 0 0, .slice none 0 0, .slice none 0 0, .slice none 0 0, .slice none 0 0] 93)).alloc (.cells (zeros (.agg #[.int .i64 0, .int .i64 0]) (A.length * 2)).toArray 105)).alloc (.map #[] 0)) = ldW w2 bF A.length from rfl]
          rw [← hW7] at P6 ⊢
          clear hW7
          rw [show w2.heap.size + 1 + 1 + 1 = w2.heap.size + 3 from rfl, show w2.heap.size + 1 + 1 = w2.heap.size + 2 from rfl]
          obtain ⟨bN, hbN⟩ : ∃ z, z = w2.heap.size := ⟨_, rfl⟩
          rw [← hbN] at P6 ⊢
          clear hbN
          have ZL : Hid (zs.length = A.length) := by
            have := ZP.out.length_eq
            show zs.length = A.length
            simpa using this
          go_loopw [155] (fun t155 wr => ∃ (v : Nat) (NM : Nat × Nat → Option Nat) (g : GG), v ≤ A.length ∧ t155 = .int .i64 v ∧ Pcs w wr (LD w R.top hs.length cap A fC V.length fV bF zs bN (nmsAt A zs v) g (List.replicate v []) (List.replicate v false) (txsAt A zs v) NM) ∧ g.kc = kc0 bN bF A.length (.slice none 0 0) (.slice none 0 0) ∧ NMI A zs v NM) (fun u _ => A.length - (intOf u).toNat)
          case atStart =>
            refine ⟨0, (fun _ => none), g00 bN bF A.length, by omega, rfl, ?_, rfl, ?_⟩
            · have := P6.out
              rw [nmsAt_zero ZL.out, txsAt_zero ZL.out]
              exact this
            · exact ⟨fun p x h => by simp at h, fun x p h => by omega⟩
          case round =>
            obtain ⟨v, NM, g, hv1, rfl, h1, h2, h3⟩ := hrel
            have P7 : Hid _ := h1
            have KC : Hid _ := h2
            have NI : Hid _ := h3
            clear h1 h2 h3
            by_cases hltv : v < A.length
            · as_aux_lemma =>
              obtain ⟨t, ht⟩ := has_at zs (k := v) (by rw [ZL.out]; exact hltv)
              have htm : t < A.length := by
                have := ZP.out.mem_iff.mp (List.mem_of_getElem? ht)
                simpa using this
              obtain ⟨r, hr⟩ := has_at A htm
              have HAT : Hid (atOf A t = (r.s, r.k)) := by
                show atOf A t = (r.s, r.k)
                simp [atOf, hr]
              have HT : Hid (zs[v]? = some t) := ht
              have HRM : Hid (r ∈ A) := List.mem_of_getElem? hr
              have AF : MarksAt bF A.length zs wr := P7.out.mem (i := 3) rfl
              obtain ⟨cf, _⟩ := AF.get ht
              have BC : BoxL (w.heap.size + 1) 0 125 5 A.length fC (A.flatMap Rk.cells) wr := P7.out.mem (i := 1) rfl
              obtain ⟨aC, cC, g1, g2, g3⟩ := BC.lies
              obtain ⟨C, q1, q2, q3, q4, _⟩ := g3.has (by omega)
              have c0 : wr.cell? ⟨C, t * 5, none⟩ = some (.int .i64 r.s) := by
                have e := flat3 Rk.cells 5 (fun _ => rfl) A t 0 r hr (by omega)
                rw [Nat.add_zero] at e
                rw [q4 (t * 5) (by omega), e]; rfl
              have c1 : wr.cell? ⟨C, t * 5 + 1, none⟩ = some (.int .i64 r.k) := by
                rw [q4 (t * 5 + 1) (by omega), flat3 Rk.cells 5 (fun _ => rfl) A t 1 r hr (by omega)]; rfl
              rw [q1] at g1
              have PX : Hid (Pcs w (wr.alloc (.cells #[.int .i64 r.s, .int .i64 r.k] 105)) (LD w R.top hs.length cap A fC V.length fV bF zs bN (nmsAt A zs v) g (List.replicate v []) (List.replicate v false) (txsAt A zs v) NM ++ [([wr.heap.size], BlkIs wr.heap.size 105 #[.int .i64 r.s, .int .i64 r.k])])) := P7.out.add (Upd.alloc [] _ _) (by simp) [wr.heap.size] _ (Blk.new _ _ _) (BlkIs.keeps _ _ _) (by simp) (by simp)
              have hv12 : v < 12 := by omega
              have ht12 : t < 12 := by omega
              clear AF BC g2 g3 q1 q2 q3 q4 ht hr
              go_upto_region 38 with fail
              clear cf c0 c1 g1
              obtain ⟨Wx, hWx⟩ : ∃ z : World, z = wr.alloc (.cells #[.int .i64 r.s, .int .i64 r.k] 105) := ⟨_, rfl⟩
              obtain ⟨pa, hpa⟩ : ∃ z, z = wr.heap.size := ⟨_, rfl⟩
              rw [← hWx, ← hpa] at PX
              rw [← hWx, ← hpa]
              have hpl : bN + 2 < pa := by rw [hpa]; exact P7.out.lt (i := 6) rfl (bN + 2) (by simp)
              have hpl3 : bN + 3 < pa := by rw [hpa]; exact P7.out.lt (i := 7) rfl (bN + 3) (by simp)
              clear hWx hpa P7
              have bA : Blk Wx pa 105 #[.int .i64 r.s, .int .i64 r.k] := PX.out.mem (i := 8) rfl
              have a0 : Wx.cell? ⟨pa, 0, none⟩ = some (.int .i64 r.s) := bA.cell 0
              have a1 : Wx.cell? ⟨pa, 1, none⟩ = some (.int .i64 r.k) := bA.cell 1
              have TX : TxsAt (bN + 2) A.length (txsAt A zs v) Wx := PX.out.mem (i := 6) rfl
              have TX' : Sl Wx 105 2 (some ⟨bN + 2, 0, none⟩) A.length A.length [bN + 2] ((txsAt A zs v).flatMap p2C) := TX
              obtain ⟨gT, eT, _, ltT, cT, zT⟩ := TX'.has (by omega)
              injection eT with eT
              injection eT with eT
              subst eT
              have lT := TX'.len
              obtain ⟨y0, hy0⟩ := has_at ((txsAt A zs v).flatMap p2C) (k := v * 2) (by omega)
              obtain ⟨y1, hy1⟩ := has_at ((txsAt A zs v).flatMap p2C) (k := v * 2 + 1) (by omega)
              have t0 := (cT (v * 2) (by omega)).trans hy0
              have t1 := (cT (v * 2 + 1) (by omega)).trans hy1
              have f0 := zT (v * 2)
              have f1 := zT (v * 2 + 1)
              have S2 := (TX'.store (v * 2) (.int .i64 r.s)).store (v * 2 + 1) (.int .i64 r.k)
              have fs := flat_set2 (txsAt A zs v) v (r.s, r.k) (by rw [txsAt_len (by rw [ZL.out]; omega), ZL.out]; exact hltv)
              simp only at fs
              rw [fs, ← HAT.out, ← txsAt_succ HT.out] at S2
              have MM0 : MapAt Wx k2 (bN + 3) (fun p => (NM p).map (ik .i64)) := PX.out.mem (i := 7) rfl
              have US : Upd [bN + 2] Wx (((Wx.setCell ⟨bN + 2, v * 2, none⟩ (.int .i64 r.s)).setCell ⟨bN + 2, v * 2 + 1, none⟩ (.int .i64 r.k)).drew) := ((Upd.store _ _ _ _).trans (Upd.store _ _ _ _) (by simp)).trans (Upd.drew [] _) (by simp)
              obtain ⟨w9, hrun, m9, u9⟩ := (MM0.keep US (by simp)).put (P := Ybaz.prog) key105 Ybaz.underlying134 (r.s, r.k) (.int .i64 v)
              have PY : Hid (Pcs w w9 (LD w R.top hs.length cap A fC V.length fV bF zs bN (nmsAt A zs v) g (List.replicate v []) (List.replicate v false) (txsAt A zs (v + 1)) (fun p => if p = atOf A t then some v else NM p) ++ [([pa], BlkIs pa 105 #[.int .i64 r.s, .int .i64 r.k])])) := by
                have p1 := PX.out.put (i := 6) rfl US (P' := TxsAt (bN + 2) A.length (txsAt A zs (v + 1))) (Sl.keep S2 (Upd.drew [] _) (by simp)) (TxsAt.keeps _ _ _) (fun x hx => ⟨.inl hx, by simp at hx; subst hx; have := US.size; omega⟩) (by simp)
                refine p1.put (i := 7) rfl u9 (P' := fun z => MapAt z k2 (bN + 3) (fun p => ((fun p => if p = atOf A t then some v else NM p) p).map (ik .i64))) (m9.congr (fun p => ?_)) (mapKeeps _ _ _) (fun x hx => ⟨.inl hx, by simp at hx; subst hx; exact m9.lt⟩) (by simp)
                rw [HAT.out]
                by_cases c : p = (r.s, r.k) <;> simp [c, ik]
              clear TX TX' cT zT lT hy0 hy1 S2 fs MM0 US m9 u9 bA
              have hrun' : (Instr.mapUpdate 134 (.map (some (bN + 3))) (.agg #[.int .i64 r.s, .int .i64 r.k]) (.int .i64 v)).run Ybaz.prog (((Wx.setCell ⟨bN + 2, v * 2, none⟩ (.int .i64 r.s)).setCell ⟨bN + 2, v * 2 + 1, none⟩ (.int .i64 r.k)).drew) = .ok () w9 := hrun
              clear hrun
              have hrs : r.s < 90 ∧ r.k < 90 := by
                have hmem : r ∈ rksAll 0 hs := by rw [← EA2.out]; exact HRM.out
                obtain ⟨_, l9, t9, q1, q2, _⟩ := rksAll_mem hs 0 r hmem
                have z1 := (List.getElem?_eq_some_iff.mp q1).1
                have z2 := (List.getElem?_eq_some_iff.mp q2).1
                have z3 := O'.out.small2 l9 (List.mem_of_getElem? q1)
                omega
              go_big_region
              clear hrun' a0 a1 t0 t1 f0 f1
              have bA : Blk w9 pa 105 #[.int .i64 r.s, .int .i64 r.k] := PY.out.mem (i := 8) rfl
              have a0 : w9.cell? ⟨pa, 0, none⟩ = some (.int .i64 r.s) := bA.cell 0
              have a1 : w9.cell? ⟨pa, 1, none⟩ = some (.int .i64 r.k) := bA.cell 1
              have GR : Gr w9 (bN + 1) 2 g (List.replicate v []) (List.replicate v false) := PY.out.mem (i := 5) rfl
              obtain ⟨_, _, d0, _⟩ := GR.oth 0 (.slice (some ⟨bN, 0, none⟩) A.length A.length) (by rw [KC.out]; rfl)
              have NA : NamesAt bN A.length (nmsAt A zs v) w9 := PY.out.mem (i := 4) rfl
              have NA' : Sl w9 9 1 (some ⟨bN, 0, none⟩) A.length A.length [bN] ((nmsAt A zs v).map strV) := NA
              obtain ⟨gN, eN, _, ltN, cN, zN⟩ := NA'.has (by omega)
              injection eN with eN
              injection eN with eN
              subst eN
              have lN := NA'.len
              obtain ⟨y2, hy2⟩ := has_at ((nmsAt A zs v).map strV) (k := v) (by omega)
              have n0 := (cN v (by omega)).trans hy2
              have nf := zN v
              have S3 := NA'.store v (strV (nm r.s r.k))
              have e9 : nm r.s r.k = nm (atOf A t).1 (atOf A t).2 := by rw [HAT.out]
              rw [← List.map_set, e9, ← nmsAt_succ HT.out] at S3
              have hnd : bN ≠ bN + 1 := by omega
              have hnp : bN ≠ pa := by omega
              have hdl : bN + 1 < w9.heap.size := World.block_lt_of_cell? _ _ d0
              have PZ : Hid (Pcs w (w9.setCell ⟨bN, v, none⟩ (strV (nm r.s r.k))) (LD w R.top hs.length cap A fC V.length fV bF zs bN (nmsAt A zs (v + 1)) g (List.replicate v []) (List.replicate v false) (txsAt A zs (v + 1)) (fun p => if p = atOf A t then some v else NM p) ++ [([pa], BlkIs pa 105 #[.int .i64 r.s, .int .i64 r.k])])) := PY.out.put (i := 4) rfl (Upd.store _ _ _ _) (P' := NamesAt bN A.length (nmsAt A zs (v + 1))) (by rw [e9]; exact S3) (NamesAt.keeps _ _ _) (fun x hx => ⟨.inl hx, by simp at hx; subst hx; simpa [World.setCell] using ltN⟩) (by simp)
              clear bA GR NA NA' cN zN lN hy2 S3 PY e9
              go_upto_region 39 with fail
              go_region_held3 (fun z => z.cell? ⟨bN + 1, 0, none⟩ = some (.slice (some ⟨bN, 0, none⟩) A.length A.length) ∧ z.cell? ⟨pa, 0, none⟩ = some (.int .i64 r.s) ∧ z.cell? ⟨pa, 1, none⟩ = some (.int .i64 r.k)) (first | exact ⟨d0, a0, a1⟩ | exact ⟨set_other d0 (.inl hnd), set_other a0 (.inl hnp), set_other a1 (.inl hnp)⟩) ((go_at_call 12; refine (txnName r.s r.k hrs.1 hrs.2 _).mono ?_; rintro e w' ⟨rfl, rfl⟩))
              all_goals (
                go_wp2_with fail
                clear d0 a0 a1 n0 nf
                obtain ⟨wz, hwz⟩ : ∃ z : World, z = (w9.setCell ⟨bN, v, none⟩ (.string ⟨(nm r.s r.k).toArray⟩)).drew := ⟨_, rfl⟩
                have PW : Hid (Pcs w wz (LD w R.top hs.length cap A fC V.length fV bF zs bN (nmsAt A zs (v + 1)) g (List.replicate v []) (List.replicate v false) (txsAt A zs (v + 1)) (fun p => if p = atOf A t then some v else NM p) ++ [([pa], BlkIs pa 105 #[.int .i64 r.s, .int .i64 r.k])])) := by
                  show Pcs w wz _
                  rw [hwz]
                  exact PZ.out.keep (Upd.drew [] _) (by simp)
                rw [← hwz]
                clear hwz PZ
                have hcon : Hid (Calls Ybaz.prog 36 #[.pointer (some ⟨bN + 1, 2, none⟩)] wz fun e w' => e = .returned (.int .i64 (List.replicate v ([] : List Nat)).length) ∧ ∃ g', Gr w' (bN + 1) 2 g' (List.replicate v [] ++ [[]]) (List.replicate v false ++ [false]) ∧ Upd ((bN + 1) :: g.foot) wz w' ∧ (∀ k ∈ g'.foot, k ∈ g.foot ∨ wz.heap.size ≤ k) ∧ g'.kc = g.kc) := by
                  have GR : Gr wz (bN + 1) 2 g (List.replicate v []) (List.replicate v false) := PW.out.mem (i := 5) rfl
                  exact addNode_any wz (bN + 1) 2 g _ _ GR (by simp; omega)
                refine hcon.out.mono ?_
                rintro e w8 ⟨rfl, g', k1, k2', k3, k4⟩
                rw [← List.replicate_succ', ← List.replicate_succ'] at k1
                have PV : Hid (Pcs w w8 (LD w R.top hs.length cap A fC V.length fV bF zs bN (nmsAt A zs (v + 1)) g' (List.replicate (v + 1) []) (List.replicate (v + 1) false) (txsAt A zs (v + 1)) (fun p => if p = atOf A t then some v else NM p))) := (PW.out.put (i := 5) rfl k2' (fp' := (bN + 1) :: g'.foot) (P' := fun z => Gr z (bN + 1) 2 g' (List.replicate (v + 1) []) (List.replicate (v + 1) false)) k1 (grKeeps _ _ _ _) (fun x hx => by
                  simp only [List.mem_cons] at hx
                  rcases hx with rfl | hx
                  · exact ⟨.inl (by simp), k1.lt⟩
                  · refine ⟨?_, k1.footLt x hx⟩
                    rcases k3 x hx with z | z
                    · exact .inl (by simp [z])
                    · exact .inr z) k1.nd).take 8
                have KC2 : Hid (g'.kc = kc0 bN bF A.length (.slice none 0 0) (.slice none 0 0)) := k4.trans KC.out
                clear k1 k2' k3 k4 hcon PW
                go_wp2_with fail
                exact ⟨⟨v + 1, _, g', by omega, by go_num, PV.out, KC2.out, NI.out.put HT.out⟩, by simp [intOf] <;> omega⟩)
            · as_aux_lemma =>
              have hv2 : v = A.length := by omega
              rw [hv2] at P7 NI
              clear hv2
              obtain ⟨wq, hwq⟩ : ∃ z : World, z = wr := ⟨_, rfl⟩
              subst hwq
              have HVB : Hid (∀ s k e x, At hs s k e x → x.v < 900 ∧ x.x < 900) := hvb
              have hmm := @run_makeMap Ybaz.prog
              clear hvb
              go_upto_region 42 with fail
              rename_i Kc hKc
              have HKc : Hid _ := hKc
              clear hKc
              go_wp2_with fail
              refine HKc.out _ _ ?_
              exact mid43T w R hs cap A fC V.length fV bF zs bN NM F b H'.out O'.out WW.out RO.out MF.out EA2.out hA ZP.out NI.out HVB.out hV ZS.out S1 g wq P7.out KC.out
end Go.Proofs.YbulkctquGreatFmt

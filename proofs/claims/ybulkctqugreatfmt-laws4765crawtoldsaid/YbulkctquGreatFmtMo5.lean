/-
  zzs4765cmodel, walked over any history.
-/
import Derived.Test.YbulkctquGreatFmtMoP
import Derived.Test.YbulkctquGreatFmtMis
import Derived.Test.YbulkctquGreatFmtApp
import Derived.Test.YbulkctquGreatFmtSeD
namespace Go.Proofs.YbulkctquGreatFmt
open Go.ChangeShapes Go.WideShapes Go.ChangeAt Go.RowKit Go.Ord
set_option linter.unusedVariables false
attribute [-go_sem] Go.Instr.build
attribute [-go_sem] Go.Instr.buildSlice
attribute [-go_sem] Go.Builtin.append_

theorem bd56m (a b c : Int) (w : World) : (Instr.build 56 #[(0, .int .i64 a), (1, .int .i64 b), (2, .int .i64 c)]).run Ybaz.prog w = .ok (.agg #[.int .i64 a, .int .i64 b, .int .i64 c]) w := by kernel_rfl
theorem bd61 (v x a b c : Int) (w : World) : (Instr.build 61 #[(0, .int .u64 v), (1, .int .u64 x), (2, .agg #[.int .i64 a, .int .i64 b, .int .i64 c])]).run Ybaz.prog w = .ok (.agg #[.int .u64 v, .int .u64 x, .int .i64 a, .int .i64 b, .int .i64 c]) w := by kernel_rfl
theorem bs40 (v x a b c : Value) (w : World) : (Instr.buildSlice 40 1 #[(0, .agg #[v, x, a, b, c])]).run Ybaz.prog w = .ok (.slice (some ⟨w.heap.size, 0, none⟩) 1 1) (w.alloc (.cells #[v, x, a, b, c] 61)) := by kernel_rfl
theorem sl40 : SliceOf Ybaz.prog 40 61 5 40 := by
  refine ⟨Ybaz.underlying40, ?_⟩
  have h : (Ybaz.prog.info? 61).map (fun i => (i.zero, i.size, i.bytes)) = some (some (.agg #[.int .u64 0, .int .u64 0, .int .i64 0, .int .i64 0, .int .i64 0]), 5, 40) := by kernel_rfl
  cases hq : Ybaz.prog.info? 61 with
  | none => rw [hq] at h; cases h
  | some i =>
    rw [hq] at h
    simp at h
    exact ⟨i, _, rfl, h.1, h.2.1, h.2.2, rfl, by decide⟩
theorem run_appended5 (W : World) (ao : Option Addr) (n cap : Nat) (fp : List Nat) (xs : List Value) (hs : Sl W 61 5 ao n cap fp xs) (v x a b c : Int) (hn : n < 1000000000) :
    ∃ g' cap' w', (Builtin.append_ #[40, 40] 40 #[.slice ao n cap, .slice (some ⟨W.heap.size, 0, none⟩) 1 1]).run Ybaz.prog (W.alloc (.cells #[.int .u64 v, .int .u64 x, .int .i64 a, .int .i64 b, .int .i64 c] 61)) = .ok (.slice (some ⟨g', 0, none⟩) (n + 1) cap') w' ∧ Sl w' 61 5 (some ⟨g', 0, none⟩) (n + 1) cap' [g'] (xs ++ [.int .u64 v, .int .u64 x, .int .i64 a, .int .i64 b, .int .i64 c]) ∧ Upd fp W w' ∧ (g' ∈ fp ∨ W.heap.size ≤ g') :=
  run_appended (P := Ybaz.prog) W (W.alloc (.cells #[.int .u64 v, .int .u64 x, .int .i64 a, .int .i64 b, .int .i64 c] 61)) 40 40 61 5 40 sl40 (by decide) ao n cap fp xs hs [.int .u64 v, .int .u64 x, .int .i64 a, .int .i64 b, .int .i64 c] rfl (by simp [Value.oneCell']) (by omega) (Upd.refl _ _)
/-- What the walk has: the box, and the list. -/
structure MO (w0 w : World) (top n cap : Nat) (sv : SV) (fp : List Nat) (ws : List Wz) : Prop where
  m0 : M0 w0 w top n cap
  sl : Sl w 61 5 sv.a sv.n sv.c fp (ws.flatMap Wz.cells)
  hn : sv.n = ws.length
  fr : ∀ k ∈ fp, w0.heap.size + 1 ≤ k
theorem MO.keep {w0 w w' : World} {top n cap : Nat} {sv : SV} {fp : List Nat} {ws : List Wz} (h : MO w0 w top n cap sv fp ws) (hu : Upd [] w w') : MO w0 w' top n cap sv fp ws :=
  ⟨h.m0.keep hu (by simp), h.sl.keep hu (by simp), h.hn, h.fr⟩
def MoPost (w : World) (hs : List (List Tx)) : Ending → World → Prop := fun e w' => ∃ (sv : SV) (fp : List Nat) (ws : List Wz) (bad : Bool), e = .returned (.tuple #[.slice sv.a sv.n sv.c, .bool bad]) ∧ Below w.heap.size w w' ∧ ((bad = true ∧ ¬ HOk hs) ∨ (bad = false ∧ HOk hs ∧ MI hs hs.length 0 0 ws ∧ sv.n = ws.length ∧ Sl w' 61 5 sv.a sv.n sv.c fp (ws.flatMap Wz.cells) ∧ ∀ k ∈ fp, w.heap.size + 1 ≤ k))
set_option maxHeartbeats 16000000 in
set_option maxRecDepth 100000 in
theorem model5 (w : World) (R : HR) (hs : List (List Tx)) (H : HistE w R hs) (B : Bnd hs) (cap : Nat) :
    Calls Ybaz.prog 5 #[.agg #[.slice (some ⟨R.top, 0, none⟩) hs.length cap]] w (Thru (MoPost w hs)) := by
  have H' : Hid _ := H
  have B' : Hid _ := B
  have I0 : Hid _ := M0.first w R.top hs.length cap
  have S1 := B.small
  have hb56 := bd56m
  have hb61 := bd61
  have hbs := bs40
  clear H B
  go_enter Ybaz.func5, Ybaz.ntmps5
  go_wp2_with fail
  obtain ⟨W3, hW3⟩ : ∃ z : World, z = w.alloc (.cells #[.slice (some ⟨R.top, 0, none⟩) hs.length cap] 29) := ⟨_, rfl⟩
  rw [← hW3] at I0 ⊢
  clear hW3
  go_loopw [4, 21] (fun t4 t21 wr => ∃ (s : Nat) (sv : SV) (fp : List Nat) (ws : List Wz), s ≤ hs.length ∧ t21 = .int .i64 s ∧ t4 = .slice sv.a sv.n sv.c ∧ MO w wr R.top hs.length cap sv fp ws ∧ MI hs s 0 0 ws ∧ G1 hs s 0 0) (fun _ u _ => hs.length - (intOf u).toNat)
  case atStart => exact ⟨0, ⟨none, 0, 0⟩, [], [], by omega, rfl, rfl, ⟨I0.out, Sl.empty _ _ _, rfl, by simp⟩, MI.start, G1.start⟩
  case round =>
    obtain ⟨s, sv, fp, ws, hs1, rfl, rfl, h2, h3, h4⟩ := hrel
    have V1 : Hid _ := h2
    have M1 : Hid _ := h3
    have X1 : Hid (G1 hs s 0 0) := h4
    clear h2 h3 h4
    by_cases hlt : s < hs.length
    · as_aux_lemma =>
      obtain ⟨l, hl3⟩ : ∃ l, hs[s]? = some l := ⟨_, List.getElem?_eq_getElem hlt⟩
      have L3 : Hid _ := hl3
      obtain ⟨o, c1, c2⟩ := (H'.out.below V1.out.m0.bel).base.ses s l hl3
      have C2 : Hid _ := c2
      have hll := B'.out.small2 l (List.mem_of_getElem? hl3)
      clear c2 hl3
      go_wp2_with fail
      clear c1
      go_loopw [4, 28] (fun t4 t28 wr => ∃ (k : Nat) (sv : SV) (fp : List Nat) (ws : List Wz), k ≤ l.length ∧ t28 = .int .i64 k ∧ t4 = .slice sv.a sv.n sv.c ∧ MO w wr R.top hs.length cap sv fp ws ∧ MI hs s k 0 ws ∧ G1 hs s k 0) (fun _ u _ => l.length - (intOf u).toNat)
      case atStart => exact ⟨0, _, _, _, by omega, rfl, rfl, V1.out, M1.out, X1.out⟩
      case round =>
        obtain ⟨k, sv, fp, ws, hk1, rfl, rfl, h2, h3, h4⟩ := hrel
        have V2 : Hid _ := h2
        have M2 : Hid _ := h3
        have X2 : Hid (G1 hs s k 0) := h4
        clear h2 h3 h4
        by_cases hlt2 : k < l.length
        · obtain ⟨t, ht⟩ : ∃ t, l[k]? = some t := ⟨_, List.getElem?_eq_getElem hlt2⟩
          have T3 : Hid _ := ht
          obtain ⟨o2, c3, c4⟩ := (H'.out.below V2.out.m0.bel).base.evs s l k t L3.out ht
          have c5 := (H'.out.below V2.out.m0.bel).base.com s l k t L3.out ht
          have ho : o = some ⟨R.ses s, 0, none⟩ := C2.out (by intro h; rw [h] at hlt2; simp at hlt2)
          subst ho
          have C4 : Hid _ := c4
          have htl := B'.out.small3 l (List.mem_of_getElem? L3.out) t (List.mem_of_getElem? ht)
          clear c4 ht
          go_wp2_with fail
          clear c3 c5
          go_loopw [4, 36] (fun t4 t36 wr => ∃ (e : Nat) (sv : SV) (fp : List Nat) (ws : List Wz), e ≤ t.evs.length ∧ t36 = .int .i64 e ∧ t4 = .slice sv.a sv.n sv.c ∧ MO w wr R.top hs.length cap sv fp ws ∧ MI hs s k e ws ∧ G1 hs s k e) (fun _ u _ => t.evs.length - (intOf u).toNat)
          case atStart => exact ⟨0, _, _, _, by omega, rfl, rfl, V2.out.keep (Upd.alloc [] _ _), M2.out, X2.out⟩
          case round =>
            obtain ⟨e, sv, fp, ws, he1, rfl, rfl, h2, h3, h4⟩ := hrel
            have V4 : Hid _ := h2
            have M4 : Hid _ := h3
            have X4 : Hid (G1 hs s k e) := h4
            clear h2 h3 h4
            by_cases hlt3 : e < t.evs.length
            · obtain ⟨v, hv⟩ : ∃ v, t.evs[e]? = some v := ⟨_, List.getElem?_eq_getElem hlt3⟩
              have ho2 : o2 = some ⟨R.evs s k, 0, none⟩ := C4.out (by intro h; rw [h] at hlt3; simp at hlt3)
              subst ho2
              have HW := H'.out.below V4.out.m0.bel
              have a0 := HW.ev s l k t e v 0 _ L3.out T3.out hv rfl
              have a1 := HW.ev s l k t e v 1 _ L3.out T3.out hv rfl
              have a2 := HW.ev s l k t e v 2 _ L3.out T3.out hv rfl
              have a3 := HW.ev s l k t e v 3 _ L3.out T3.out hv rfl
              simp only [Nat.add_zero] at a0
              have hat : At hs s k e v := ⟨l, t, L3.out, T3.out, hv⟩
              have hv256 := (B'.out.ev _ _ _ _ hat).1
              have hwl := M4.out.len B'.out
              clear HW hv
              by_cases hkd : v.k = 0 ∨ v.k = 1
              case neg =>
                as_aux_lemma =>
                have NOK : Hid (¬ HOk hs) := fun O => hkd (O.kind _ _ _ _ hat)
                have f0 : (((v.k : Nat) : Int) != 0) = true := by simp; omega
                have f1 : (((v.k : Nat) : Int) != 1) = true := by simp; omega
                have c0 : ¬ v.k = 0 := by omega
                clear hat hkd
                go_wp2_with fail
                go_ret2
                exact ⟨sv, fp, ws, true, rfl, V4.out.m0.bel.trans ((Upd.alloc [] _ _).below V4.out.m0.bel.size (by simp)), .inl ⟨rfl, NOK.out⟩⟩
              rcases hkd with hk | hk
              · as_aux_lemma =>
                rw [hk] at a0
                have M5 : Hid (MI hs s k (e + 1) ws) := M4.out.read hat (by omega)
                have X5 : Hid (G1 hs s k (e + 1)) := X4.out.step hat (.inl hk) (fun h => by omega)
                clear hat hk
                go_wp2_with fail
                exact ⟨⟨e + 1, sv, fp, ws, by omega, by go_num, rfl, V4.out.keep (Upd.alloc [] _ _), M5.out, X5.out⟩, by simp [intOf] <;> omega⟩
              · rw [hk] at a0
                cases hvi : v.i with
                | true =>
                  as_aux_lemma =>
                  have NOK : Hid (¬ HOk hs) := fun O => by have := O.wi _ _ _ _ hat hk; rw [hvi] at this; cases this
                  rw [hvi] at a3
                  clear hat hvi hk
                  go_wp2_with fail
                  go_ret2
                  exact ⟨sv, fp, ws, true, rfl, V4.out.m0.bel.trans ((Upd.alloc [] _ _).below V4.out.m0.bel.size (by simp)), .inl ⟨rfl, NOK.out⟩⟩
                | false =>
                  as_aux_lemma =>
                  rw [hvi] at a3
                  have UA : Hid (Upd [] wr (wr.alloc (.cells #[.int .u8 1, .int .u64 v.x, .int .u64 v.v, .bool false] 37))) := Upd.alloc _ _ _
                  have S5 := (V4.out.keep UA.out).sl
                  have K9 : Hid (Calls Ybaz.prog 9 #[.slice sv.a sv.n sv.c, .int .u64 v.v] (wr.alloc (.cells #[.int .u8 1, .int .u64 v.x, .int .u64 v.v, .bool false] 37)) fun e w' => w' = wr.alloc (.cells #[.int .u8 1, .int .u64 v.x, .int .u64 v.v, .bool false] 37) ∧ ∃ i : Int, e = .returned (.int .i64 i) ∧ ((i = -1 ∧ ∀ z ∈ ws, z.v ≠ v.v) ∨ ∃ (k : Nat) (z : Wz), i = (k : Int) ∧ ws[k]? = some z ∧ z.v = v.v)) := by
                    rw [V4.out.hn] at S5 ⊢
                    exact find9 _ sv.a sv.c fp ws S5 v.v (by omega)
                  have ND : Hid (∀ z ∈ ws, z.v = v.v → ¬ HOk hs) := fun z hz hv => M4.out.dup hat hk hz hv
                  have MW : Hid ((∀ z ∈ ws, z.v ≠ v.v) → MI hs s k (e + 1) (ws ++ [⟨v.v, v.x, s, k, e⟩])) := M4.out.write hat hk
                  have X5 : Hid (G1 hs s k (e + 1)) := X4.out.step hat (.inr hk) (fun _ => hvi)
                  have hb10 : (wr.alloc (.cells #[.int .u8 1, .int .u64 v.x, .int .u64 v.v, .bool false] 37)).cell? ⟨wr.heap.size, 1, none⟩ = some (.int .u64 v.x) := (Blk.new wr #[.int .u8 1, .int .u64 v.x, .int .u64 v.v, .bool false] 37).cell 1
                  clear hat hvi hk S5
                  go_wp2_with fail
                  refine Calls.mono K9.out ?_
                  rintro e9 w9 ⟨rfl, i, rfl, hi9⟩
                  clear K9 a0 a1 a2 a3
                  rcases hi9 with ⟨rfl, hno⟩ | ⟨kk, z, rfl, hz, hzv⟩
                  · have M5 : Hid (MI hs s k (e + 1) (ws ++ [⟨v.v, v.x, s, k, e⟩])) := MW.out hno
                    clear hno hb10
                    obtain ⟨b10, hb10⟩ : ∃ b, b = wr.heap.size := ⟨_, rfl⟩
                    obtain ⟨W5, hW5⟩ : ∃ z : World, z = wr.alloc (.cells #[.int .u8 1, .int .u64 v.x, .int .u64 v.v, .bool false] 37) := ⟨_, rfl⟩
                    have B5 : Blk W5 b10 37 #[.int .u8 1, .int .u64 v.x, .int .u64 v.v, .bool false] := by rw [hW5, hb10]; exact Blk.new _ _ _
                    have V5 : Hid (MO w W5 R.top hs.length cap sv fp ws) := by rw [hW5]; exact V4.out.keep UA.out
                    rw [← hW5, ← hb10]
                    have q1 : W5.cell? ⟨b10, 1, none⟩ = some (.int .u64 v.x) := B5.cell 1
                    have q2 : W5.cell? ⟨b10, 2, none⟩ = some (.int .u64 v.v) := B5.cell 2
                    have hsn : sv.n < 1000000 := by have := V5.out.hn; omega
                    obtain ⟨gX, cX, w1, hrun', r1, r2, r3⟩ := run_appended5 W5 sv.a sv.n sv.c fp _ V5.out.sl (v.v : Int) (v.x : Int) (s : Int) (k : Int) (e : Int) (by omega)
                    have hrun : (Builtin.append_ #[40, 40] 40 #[.slice sv.a sv.n sv.c, .slice (some ⟨W5.heap.size, 0, none⟩) 1 1]).run Ybaz.prog (W5.alloc (.cells #[.int .u64 (v.v : Int), .int .u64 (v.x : Int), .int .i64 (s : Int), .int .i64 (k : Int), .int .i64 (e : Int)] 61)) = .ok (.slice (some ⟨gX, 0, none⟩) (sv.n + 1) cX) w1 := hrun'
                    have V6 : Hid (MO w w1 R.top hs.length cap ⟨some ⟨gX, 0, none⟩, sv.n + 1, cX⟩ [gX] (ws ++ [⟨v.v, v.x, s, k, e⟩])) := by
                      refine ⟨V5.out.m0.keep r2 V5.out.fr, ?_, by simp [V5.out.hn], fun k hk => ?_⟩
                      · rw [List.flatMap_append]; simpa [Wz.cells] using r1
                      · simp at hk; subst hk
                        rcases r3 with q | q
                        · exact V5.out.fr _ q
                        · have := V5.out.m0.size; omega
                    clear hW5 hb10 B5 hrun' r1 r2 r3 UA
                    go_wp2_with fail
                    exact ⟨⟨e + 1, ⟨some ⟨gX, 0, none⟩, sv.n + 1, cX⟩, [gX], ws ++ [⟨v.v, v.x, s, k, e⟩], by omega, by go_num, rfl, V6.out, M5.out, X5.out⟩, by simp [intOf] <;> omega⟩
                  · have NOK : Hid (¬ HOk hs) := ND.out z (List.mem_of_getElem? hz) hzv
                    have hkk : kk < 1000 := by have := (List.getElem?_eq_some_iff.mp hz).1; omega
                    clear hz hzv
                    go_wp2_with fail
                    go_ret2
                    exact ⟨sv, fp, ws, true, rfl, V4.out.m0.bel.trans (UA.out.below V4.out.m0.bel.size (by simp)), .inl ⟨rfl, NOK.out⟩⟩
            · as_aux_lemma =>
              have he2 : e = t.evs.length := by omega
              subst he2
              go_wp2_with fail
              exact ⟨⟨k + 1, sv, fp, ws, by omega, by go_num, rfl, V4.out, M4.out.nextTxn L3.out T3.out, X4.out.nextTxn L3.out T3.out⟩, by simp [intOf] <;> omega⟩
        · as_aux_lemma =>
          have hk2 : k = l.length := by omega
          subst hk2
          go_wp2_with fail
          exact ⟨⟨s + 1, sv, fp, ws, by omega, by go_num, rfl, V2.out, M2.out.nextSes L3.out, X2.out.nextSes L3.out⟩, by simp [intOf] <;> omega⟩
    · as_aux_lemma =>
      obtain ⟨sa, sn, sc⟩ := sv
      dsimp only
      have hs2 : s = hs.length := by omega
      have M9 : Hid (MI hs hs.length 0 0 ws) := by have := M1.out; rw [hs2] at this; exact this
      have X9 : Hid (G1 hs hs.length 0 0) := by have := X1.out; rw [hs2] at this; exact this
      have bx := V1.out.m0.box
      have hwl := M9.out.len B'.out
      have hsn : sn = ws.length := V1.out.hn
      have HSN : Hid (sn = ws.length) := hsn
      have hsn9 : sn < 1000 := by omega
      have NB : Hid (s = hs.length) := hs2
      clear hs2 X1 M1 hsn
      go_wp2_with fail
      clear bx
      go_loopw [81] (fun t81 wr => ∃ (s : Nat), s ≤ hs.length ∧ t81 = .int .i64 s ∧ MO w wr R.top hs.length cap ⟨sa, sn, sc⟩ fp ws ∧ G2 hs s 0 0) (fun u _ => hs.length - (intOf u).toNat)
      case atStart => exact ⟨0, by omega, rfl, V1.out, G2.start⟩
      case round =>
        obtain ⟨s', hs1', rfl, h2, h4⟩ := hrel
        have V5 : Hid _ := h2
        have Y1 : Hid (G2 hs s' 0 0) := h4
        clear h2 h4
        by_cases hlt4 : s' < hs.length
        · as_aux_lemma =>
          obtain ⟨l, hl3⟩ : ∃ l, hs[s']? = some l := ⟨_, List.getElem?_eq_getElem hlt4⟩
          have L3 : Hid _ := hl3
          obtain ⟨o, c1, c2⟩ := (H'.out.below V5.out.m0.bel).base.ses s' l hl3
          have C2 : Hid _ := c2
          have hll := B'.out.small2 l (List.mem_of_getElem? hl3)
          clear c2 hl3
          go_wp2_with fail
          clear c1
          go_loopw [87] (fun t87 wr => ∃ (k : Nat), k ≤ l.length ∧ t87 = .int .i64 k ∧ MO w wr R.top hs.length cap ⟨sa, sn, sc⟩ fp ws ∧ G2 hs s' k 0) (fun u _ => l.length - (intOf u).toNat)
          case atStart => exact ⟨0, by omega, rfl, V5.out, Y1.out⟩
          case round =>
            obtain ⟨k, hk1, rfl, h2, h4⟩ := hrel
            have V6 : Hid _ := h2
            have Y2 : Hid (G2 hs s' k 0) := h4
            clear h2 h4
            by_cases hlt5 : k < l.length
            · obtain ⟨t, ht⟩ : ∃ t, l[k]? = some t := ⟨_, List.getElem?_eq_getElem hlt5⟩
              have T3 : Hid _ := ht
              obtain ⟨o2, c3, c4⟩ := (H'.out.below V6.out.m0.bel).base.evs s' l k t L3.out ht
              have c5 := (H'.out.below V6.out.m0.bel).base.com s' l k t L3.out ht
              have ho : o = some ⟨R.ses s', 0, none⟩ := C2.out (by intro h; rw [h] at hlt5; simp at hlt5)
              subst ho
              have C4 : Hid _ := c4
              have htl := B'.out.small3 l (List.mem_of_getElem? L3.out) t (List.mem_of_getElem? ht)
              clear c4 ht
              go_wp2_with fail
              clear c3 c5
              go_loopw [94] (fun t94 wr => ∃ (e : Nat), e ≤ t.evs.length ∧ t94 = .int .i64 e ∧ MO w wr R.top hs.length cap ⟨sa, sn, sc⟩ fp ws ∧ G2 hs s' k e) (fun u _ => t.evs.length - (intOf u).toNat)
              case atStart => exact ⟨0, by omega, rfl, V6.out.keep (Upd.alloc [] _ _), Y2.out⟩
              case round =>
                obtain ⟨e, he1, rfl, h2, h4⟩ := hrel
                have V7 : Hid _ := h2
                have Y3 : Hid (G2 hs s' k e) := h4
                clear h2 h4
                by_cases hlt6 : e < t.evs.length
                · obtain ⟨v, hv⟩ : ∃ v, t.evs[e]? = some v := ⟨_, List.getElem?_eq_getElem hlt6⟩
                  have ho2 : o2 = some ⟨R.evs s' k, 0, none⟩ := C4.out (by intro h; rw [h] at hlt6; simp at hlt6)
                  subst ho2
                  have HW := H'.out.below V7.out.m0.bel
                  have a0 := HW.ev s' l k t e v 0 _ L3.out T3.out hv rfl
                  have a1 := HW.ev s' l k t e v 1 _ L3.out T3.out hv rfl
                  have a2 := HW.ev s' l k t e v 2 _ L3.out T3.out hv rfl
                  have a3 := HW.ev s' l k t e v 3 _ L3.out T3.out hv rfl
                  simp only [Nat.add_zero] at a0
                  have hat : At hs s' k e v := ⟨l, t, L3.out, T3.out, hv⟩
                  have hkd := (X9.out _ _ _ _ hat (bef_all hat)).1
                  clear HW hv
                  rcases hkd with hk | hk
                  · rw [hk] at a0
                    cases hi : v.i with
                    | true =>
                      as_aux_lemma =>
                      have Y5 : Hid (G2 hs s' k (e + 1)) := Y3.out.step hat (fun _ h => by rw [hi] at h; cases h)
                      rw [hi] at a3
                      clear hi hat hk
                      go_wp2_with fail
                      exact ⟨⟨e + 1, by omega, by go_num, V7.out.keep (Upd.alloc [] _ _), Y5.out⟩, by simp [intOf] <;> omega⟩
                    | false =>
                      as_aux_lemma =>
                      rw [hi] at a3
                      have UA : Hid (Upd [] wr (wr.alloc (.cells #[.int .u8 0, .int .u64 v.x, .int .u64 v.v, .bool false] 37))) := Upd.alloc _ _ _
                      have S5 := (V7.out.keep UA.out).sl
                      have K9 : Hid (Calls Ybaz.prog 9 #[.slice sa sn sc, .int .u64 v.v] (wr.alloc (.cells #[.int .u8 0, .int .u64 v.x, .int .u64 v.v, .bool false] 37)) fun e w' => w' = wr.alloc (.cells #[.int .u8 0, .int .u64 v.x, .int .u64 v.v, .bool false] 37) ∧ ∃ i : Int, e = .returned (.int .i64 i) ∧ ((i = -1 ∧ ∀ z ∈ ws, z.v ≠ v.v) ∨ ∃ (k : Nat) (z : Wz), i = (k : Int) ∧ ws[k]? = some z ∧ z.v = v.v)) := by
                        have e9 : sn = ws.length := V7.out.hn
                        rw [e9] at S5 ⊢
                        exact find9 _ sa sc fp ws S5 v.v (by omega)
                      have BD : Hid ((∀ z ∈ ws, z.v = v.v → z.x ≠ v.x) → ¬ HOk hs) := M9.out.bad hat hk hi
                      have GD : Hid (∀ z ∈ ws, z.v = v.v → z.x = v.x → G2 hs s' k (e + 1)) := fun z h1 h2 h3 => Y3.out.step hat (fun _ _ => M9.out.good h1 h2 h3)
                      clear hat hi hk S5
                      go_wp2_with fail
                      refine Calls.mono K9.out ?_
                      rintro e9 w9 ⟨rfl, i, rfl, hi9⟩
                      clear K9 a0 a1 a2 a3
                      obtain ⟨b16, hb16⟩ : ∃ b, b = wr.heap.size := ⟨_, rfl⟩
                      obtain ⟨W5, hW5⟩ : ∃ z : World, z = wr.alloc (.cells #[.int .u8 0, .int .u64 v.x, .int .u64 v.v, .bool false] 37) := ⟨_, rfl⟩
                      have B5 : Blk W5 b16 37 #[.int .u8 0, .int .u64 v.x, .int .u64 v.v, .bool false] := by rw [hW5, hb16]; exact Blk.new _ _ _
                      have V8 : Hid (MO w W5 R.top hs.length cap ⟨sa, sn, sc⟩ fp ws) := by rw [hW5]; exact V7.out.keep UA.out
                      rw [← hW5, ← hb16]
                      have q1 : W5.cell? ⟨b16, 1, none⟩ = some (.int .u64 v.x) := B5.cell 1
                      clear hW5 hb16 B5 UA
                      rcases hi9 with ⟨rfl, hno⟩ | ⟨kk, z, rfl, hz, hzv⟩
                      · have NOK : Hid (¬ HOk hs) := BD.out (fun z hz hv => absurd hv (hno z hz))
                        clear hno
                        go_upto_region 31 with fail
                        go_big_quiet (fail)
                        go_wp2_with fail
                        go_ret2
                        exact ⟨⟨sa, sn, sc⟩, fp, ws, true, rfl, V8.out.m0.bel.trans ((Upd.drewN [] _ _).below V8.out.m0.bel.size (by simp)), .inl ⟨rfl, NOK.out⟩⟩
                      · have hkk : kk < sn := by have := (List.getElem?_eq_some_iff.mp hz).1; have := HSN.out; omega
                        obtain ⟨g, ga, _, cz⟩ := wz_at V8.out.sl hz (j := 1) (u := .int .u64 z.x) rfl
                        have hk0 : ¬ ((kk : Int) < 0) := by omega
                        have hk1 : decide ((kk : Int) < 0) = false := by simp
                        have hk2 : kk < 1000 := by omega
                        by_cases hx : z.x = v.x
                        · have e1 : (((z.x : Nat) : Int) != ((v.x : Nat) : Int)) = false := by simp; omega
                          have Y5 : Hid (G2 hs s' k (e + 1)) := GD.out z (List.mem_of_getElem? hz) hzv hx
                          clear hz hzv hx
                          have ga' : sa = some ⟨g, 0, none⟩ := ga
                          clear ga
                          subst ga'
                          go_upto_region 31 with fail
                          go_big_quiet (fail)
                          go_wp2_with fail
                          exact ⟨⟨e + 1, by omega, by go_num, V8.out.keep (Upd.drewN [] _ _), Y5.out⟩, by simp [intOf] <;> omega⟩
                        · have NOK : Hid (¬ HOk hs) := BD.out (fun z' hz' hv' => by
                            have := map_inj M9.out.nd hz' (List.mem_of_getElem? hz) (by omega)
                            subst this; exact hx)
                          have e1 : (((z.x : Nat) : Int) != ((v.x : Nat) : Int)) = true := by simp; omega
                          clear hz hzv hx
                          have ga' : sa = some ⟨g, 0, none⟩ := ga
                          clear ga
                          subst ga'
                          go_upto_region 31 with fail
                          go_big_quiet (fail)
                          go_wp2_with fail
                          go_ret2
                          exact ⟨⟨_, sn, sc⟩, fp, ws, true, rfl, V8.out.m0.bel.trans ((Upd.drewN [] _ _).below V8.out.m0.bel.size (by simp)), .inl ⟨rfl, NOK.out⟩⟩
                  · as_aux_lemma =>
                    rw [hk] at a0
                    have Y5 : Hid (G2 hs s' k (e + 1)) := Y3.out.step hat (fun h => by omega)
                    clear hat hk
                    go_wp2_with fail
                    exact ⟨⟨e + 1, by omega, by go_num, V7.out.keep (Upd.alloc [] _ _), Y5.out⟩, by simp [intOf] <;> omega⟩
                · as_aux_lemma =>
                  have he2 : e = t.evs.length := by omega
                  subst he2
                  go_wp2_with fail
                  exact ⟨⟨k + 1, by omega, by go_num, V7.out, Y3.out.nextTxn L3.out T3.out⟩, by simp [intOf] <;> omega⟩
            · as_aux_lemma =>
              have hk2 : k = l.length := by omega
              subst hk2
              go_wp2_with fail
              exact ⟨⟨s' + 1, by omega, by go_num, V6.out, Y2.out.nextSes L3.out⟩, by simp [intOf] <;> omega⟩
        · as_aux_lemma =>
          have hs2 : s' = hs.length := by omega
          subst hs2
          go_wp2_with fail
          go_ret2
          exact ⟨⟨sa, sn, sc⟩, fp, ws, false, rfl, V5.out.m0.bel, .inr ⟨rfl, HOk.ofM B'.out X9.out M9.out Y1.out, M9.out, HSN.out, V5.out.sl, V5.out.fr⟩⟩
end Go.Proofs.YbulkctquGreatFmt

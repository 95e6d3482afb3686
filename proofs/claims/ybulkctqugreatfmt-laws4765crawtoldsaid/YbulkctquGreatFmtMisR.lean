/-
  misread, walked over any history that breaks no rule.
-/
import Derived.Test.YbulkctquGreatFmtHr
import Derived.Test.YbulkctquGreatFmtSeD
import Derived.Test.YbulkctquGreatFmtLex
namespace Go.Proofs.YbulkctquGreatFmt
open Go.ChangeShapes Go.WideShapes Go.ChangeAt Go.RowKit Go.Ord
set_option linter.unusedVariables false
attribute [-go_sem] Go.Instr.build

/-- What misread gives: nothing, and then no read is misread; or a misread: the first of an uncommitted version where there is one. -/
def MrPost (w : World) (hs : List (List Tx)) (F : Nat → Option Wr) : Ending → World → Prop := fun r w' =>
  (r = .returned (.pointer none) ∧ ROk hs ∧ RC hs F hs.length 0 0 ∧ Below w.heap.size w w') ∨
  (∃ (bM : Nat) (a b c f a' b' c' : Int), r = .returned (.pointer (some ⟨bM, 0, none⟩)) ∧ Blk w' bM 59 #[.int .i64 a, .int .i64 b, .int .i64 c, .int .u8 f, .int .i64 a', .int .i64 b', .int .i64 c'] ∧ w.heap.size ≤ bM ∧ Below w.heap.size w w' ∧
    ((∃ (s k e : Nat) (q : Wr), Unc hs F s k e q ∧ RC hs F s k e ∧ a = s ∧ b = k ∧ c = e ∧ f = 0 ∧ a' = q.s ∧ b' = q.k ∧ c' = q.e) ∨ RC hs F hs.length 0 0))
set_option maxHeartbeats 16000000 in
set_option maxRecDepth 100000 in
theorem misread13R (w : World) (R : HR) (hs : List (List Tx)) (H : HistE w R hs) (O : HOk hs) (cap b : Nat) (F : Nat → Option Wr) (hF : MapAt w (ik .u64) b (fun v => (F v).map Wr.val)) (W : WF hs F) :
    Calls Ybaz.prog 13 #[.agg #[.slice (some ⟨R.top, 0, none⟩) hs.length cap], .map (some b)] w (Thru (MrPost w hs F)) := by
  have H' : Hid _ := H
  have O' : Hid _ := O
  have WW : Hid _ := W
  have hb56 := bd56h
  have hb59 := bd59
  have MF : Hid _ := hF
  have hbw : b < w.heap.size := hF.lt
  have I0 : Hid _ := M0.first w R.top hs.length cap
  have S1 := O.small
  clear H O W hF
  have hmm := @run_makeMap Ybaz.prog
  have hfl := field114_0
  go_enter Ybaz.func13, Ybaz.ntmps13
  go_wp2_with fail
  obtain ⟨W3, hW3⟩ : ∃ z : World, z = w.alloc (.cells #[.slice (some ⟨R.top, 0, none⟩) hs.length cap] 29) := ⟨_, rfl⟩
  rw [← hW3] at I0 ⊢
  clear hW3
  go_loopw [27] (fun t27 wr => ∃ (s : Nat), s ≤ hs.length ∧ t27 = .int .i64 s ∧ M0 w wr R.top hs.length cap ∧ RC hs F s 0 0) (fun u _ => hs.length - (intOf u).toNat)
  case atStart => exact ⟨0, by omega, rfl, I0.out, RC.start⟩
  case round =>
    obtain ⟨s, hs1, rfl, h2, h5⟩ := hrel
    have X1 : Hid _ := h2
    have R1 : Hid (RC hs F s 0 0) := h5
    clear h2 h5
    by_cases hlt : s < hs.length
    · obtain ⟨l, hl3⟩ : ∃ l, hs[s]? = some l := ⟨_, List.getElem?_eq_getElem hlt⟩
      have L3 : Hid _ := hl3
      obtain ⟨o, c1, c2⟩ := (H'.out.below X1.out.bel).base.ses s l hl3
      have C2 : Hid _ := c2
      have hll := O'.out.small2 l (List.mem_of_getElem? hl3)
      clear c2 hl3
      go_wp2_with fail
      clear c1
      go_loopw [34] (fun t34 wr => ∃ (k : Nat), k ≤ l.length ∧ t34 = .int .i64 k ∧ M0 w wr R.top hs.length cap ∧ RC hs F s k 0) (fun u _ => l.length - (intOf u).toNat)
      case atStart => exact ⟨0, by omega, rfl, X1.out, R1.out⟩
      case round =>
        obtain ⟨k, hk1, rfl, h2, h5⟩ := hrel
        have X2 : Hid _ := h2
        have R2 : Hid (RC hs F s k 0) := h5
        clear h2 h5
        by_cases hlt2 : k < l.length
        · obtain ⟨t, ht⟩ : ∃ t, l[k]? = some t := ⟨_, List.getElem?_eq_getElem hlt2⟩
          have T3 : Hid _ := ht
          obtain ⟨o2, c3, c4⟩ := (H'.out.below X2.out.bel).base.evs s l k t L3.out ht
          have c5 := (H'.out.below X2.out.bel).base.com s l k t L3.out ht
          have ho : o = some ⟨R.ses s, 0, none⟩ := C2.out (by intro h; rw [h] at hlt2; simp at hlt2)
          subst ho
          have C4 : Hid _ := c4
          have htl := O'.out.small3 l (List.mem_of_getElem? L3.out) t (List.mem_of_getElem? ht)
          clear c4 ht
          cases hcm : t.com with
          | false =>
            rw [hcm] at c5
            have R3 : Hid (RC hs F s (k + 1) 0) := R2.out.skip L3.out T3.out hcm
            clear hcm
            go_wp2_with fail
            exact ⟨⟨k + 1, by omega, by go_num, X2.out.keep (Upd.alloc [] _ _) (by simp), R3.out⟩, by simp [intOf] <;> omega⟩
          | true =>
            rw [hcm] at c5
            have CM : Hid (Cm hs s k) := ⟨l, t, L3.out, T3.out, hcm⟩
            clear hcm
            go_wp2_with fail
            clear c3 c5
            go_loopw [45] (fun t45 wr => ∃ (e : Nat), e ≤ t.evs.length ∧ t45 = .int .i64 e ∧ M0 w wr R.top hs.length cap ∧ RC hs F s k e) (fun u _ => t.evs.length - (intOf u).toNat)
            case atStart => exact ⟨0, by omega, rfl, X2.out.keep (Upd.alloc [] _ _) (by simp), R2.out⟩
            case round => as_aux_lemma =>
              obtain ⟨e, he1, rfl, h2, h5⟩ := hrel
              have X3 : Hid _ := h2
              have R4 : Hid (RC hs F s k e) := h5
              clear h2 h5
              by_cases hlt3 : e < t.evs.length
              · obtain ⟨v, hv⟩ : ∃ v, t.evs[e]? = some v := ⟨_, List.getElem?_eq_getElem hlt3⟩
                have ho2 : o2 = some ⟨R.evs s k, 0, none⟩ := C4.out (by intro h; rw [h] at hlt3; simp at hlt3)
                subst ho2
                have HW := H'.out.below X3.out.bel
                have a0 := HW.ev s l k t e v 0 _ L3.out T3.out hv rfl
                have a1 := HW.ev s l k t e v 1 _ L3.out T3.out hv rfl
                have a2 := HW.ev s l k t e v 2 _ L3.out T3.out hv rfl
                have a3 := HW.ev s l k t e v 3 _ L3.out T3.out hv rfl
                simp only [Nat.add_zero] at a0
                have hat : At hs s k e v := ⟨l, t, L3.out, T3.out, hv⟩
                have hkd := O'.out.kind _ _ _ _ hat
                have hz4 := X3.out.size
                clear HW hv
                rcases hkd with hk | hk
                · rw [hk] at a0
                  cases hi : v.i with
                  | true =>
                    have R5 : Hid (RC hs F s k (e + 1)) := R4.out.step (fun q ⟨v', h1, _, _, h4, _⟩ => by have := h1.same hat; subst this; rw [hi] at h4; cases h4)
                    rw [hi] at a3
                    clear hi hat hk
                    go_wp2_with fail
                    exact ⟨⟨e + 1, by omega, by go_num, X3.out.keep (Upd.alloc [] _ _) (by simp), R5.out⟩, by simp [intOf] <;> omega⟩
                  | false =>
                    rw [hi] at a3
                    obtain ⟨q, x, g1, g2, g3, g4, g5⟩ := WW.out.read O'.out hat hk hi
                    obtain ⟨l9, t9, y1, y2, y3⟩ := g2
                    have FQ : Hid (F v.v = some q) := g1
                    have hqs : q.s < hs.length := (List.getElem?_eq_some_iff.mp y1).1
                    have hqk : q.k < l9.length := (List.getElem?_eq_some_iff.mp y2).1
                    have hq9 : q.k < 1000 := by have := O'.out.small2 l9 (List.mem_of_getElem? y1); omega
                    have Y1 : Hid (hs[q.s]? = some l9) := y1
                    have Y2 : Hid (l9[q.k]? = some t9) := y2
                    have RG : Hid (t9.com = true → RC hs F s k (e + 1)) := fun hcq => R4.out.step (fun q' ⟨v', h1, _, _, _, h5, h6⟩ => by
                      have := h1.same hat; subst this
                      rw [g1] at h5; injection h5 with h5; subst h5
                      exact h6 ⟨l9, t9, y1, y2, hcq⟩)
                    have RB : Hid (t9.com = false → Unc hs F s k e q) := fun hcq => ⟨v, hat, CM.out, hk, hi, g1, fun ⟨l8, t8, c1, c2, c3⟩ => by
                      rw [y1] at c1; injection c1 with c1; subst c1
                      rw [y2] at c2; injection c2 with c2; subst c2
                      rw [hcq] at c3; cases c3⟩
                    clear g5
                    clear hi hat hk g1 g3 g4 y1 y2 y3
                    have X4 : Hid (∀ A, M0 w (wr.alloc A) R.top hs.length cap) := fun A => X3.out.keep (Upd.alloc [] _ _) (by simp)
                    go_upto_region 13 with (at_lookup; refine wpList_look1 rfl (.tmp 57) (.tmp 59) 74 rfl Ybaz.underlying74 key35 b _ (MF.out.below (X4.out _).bel hbw) v.v zero114 rfl rfl (.agg #[.int .i64 q.s, .int .i64 q.k, .int .i64 q.e, .int .i64 q.n]) (by simp only [FQ.out]; rfl) ?_)
                    clear a0 a1 a2 a3
                    obtain ⟨Wn, hWn⟩ : ∃ z : World, z = (wr.alloc (.cells #[.int .u8 0, .int .u64 v.x, .int .u64 v.v, .bool false] 37)).alloc (.cells #[.int .i64 q.s, .int .i64 q.k, .int .i64 q.e] 56) := ⟨_, rfl⟩
                    rw [← hWn]
                    have XN : M0 w Wn R.top hs.length cap := by rw [hWn]; exact (X4.out _).keep (Upd.alloc [] _ _) (by simp)
                    have k1 : Blk Wn (wr.heap.size + 1) 56 #[.int .i64 q.s, .int .i64 q.k, .int .i64 q.e] := by
                      have := Blk.new (wr.alloc (.cells #[.int .u8 0, .int .u64 v.x, .int .u64 v.v, .bool false] 37)) #[.int .i64 q.s, .int .i64 q.k, .int .i64 q.e] 56
                      rw [← hWn] at this
                      simpa using this
                    have m0 : Wn.cell? ⟨wr.heap.size + 1, 0, none⟩ = some (.int .i64 q.s) := k1.cell 0
                    have m1 : Wn.cell? ⟨wr.heap.size + 1, 1, none⟩ = some (.int .i64 q.k) := k1.cell 1
                    have bx := XN.box
                    have HN := H'.out.below XN.bel
                    obtain ⟨o9, d1, d2⟩ := HN.base.ses q.s l9 Y1.out
                    have ho9 : o9 = some ⟨R.ses q.s, 0, none⟩ := d2 (by intro h; rw [h] at hqk; simp at hqk)
                    subst ho9
                    have d3 := HN.base.com q.s l9 q.k t9 Y1.out Y2.out
                    have m2 : Wn.cell? ⟨wr.heap.size + 1, 2, none⟩ = some (.int .i64 q.e) := k1.cell 2
                    have NW : Hid _ := XN
                    clear hWn k1 XN HN d2
                    cases hcq : t9.com with
                    | true =>
                      as_aux_lemma =>
                      rw [hcq] at d3
                      have R5 : Hid (RC hs F s k (e + 1)) := RG.out hcq
                      clear hcq
                      go_big_quiet (fail)
                      go_wp2_with fail
                      exact ⟨⟨e + 1, by omega, by go_num, NW.out.keep (Upd.drewN [] _ _) (by simp), R5.out⟩, by simp [intOf] <;> omega⟩
                    | false =>
                      as_aux_lemma =>
                      rw [hcq] at d3
                      have UB : Hid (Unc hs F s k e q) := RB.out hcq
                      clear hcq
                      go_big_quiet (fail)
                      obtain ⟨W7, hW7⟩ : ∃ z : World, z = Wn.drewN nq := ⟨_, rfl⟩
                      have n0 : W7.cell? ⟨wr.heap.size + 1, 0, none⟩ = some (.int .i64 q.s) := by rw [hW7]; exact m0
                      have n1 : W7.cell? ⟨wr.heap.size + 1, 1, none⟩ = some (.int .i64 q.k) := by rw [hW7]; exact m1
                      have n2 : W7.cell? ⟨wr.heap.size + 1, 2, none⟩ = some (.int .i64 q.e) := by rw [hW7]; exact m2
                      have N7 : Hid (M0 w W7 R.top hs.length cap) := by rw [hW7]; exact NW.out.keep (Upd.drewN [] _ _) (by simp)
                      rw [← hW7]
                      clear hW7 m0 m1 m2 bx d1 d3
                      go_wp2_with fail
                      go_ret
                      refine .inr ⟨W7.heap.size, s, k, e, 0, q.s, q.k, q.e, rfl, Blk.new _ _ _, ?_, ?_, .inl ⟨s, k, e, q, UB.out, R4.out, rfl, rfl, rfl, rfl, rfl, rfl, rfl⟩⟩
                      · have := N7.out.size; omega
                      · exact N7.out.bel.trans ((Upd.alloc [] _ _).below N7.out.bel.size (by simp))
                · rw [hk] at a0
                  have R5 : Hid (RC hs F s k (e + 1)) := R4.out.step (fun q ⟨v', h1, _, h3, _⟩ => by have := h1.same hat; subst this; omega)
                  clear hat hk
                  go_wp2_with fail
                  exact ⟨⟨e + 1, by omega, by go_num, X3.out.keep (Upd.alloc [] _ _) (by simp), R5.out⟩, by simp [intOf] <;> omega⟩
              · have he2 : e = t.evs.length := by omega
                subst he2
                go_wp2_with fail
                exact ⟨⟨k + 1, by omega, by go_num, X3.out, R4.out.nextTxn L3.out T3.out⟩, by simp [intOf] <;> omega⟩
        · have hk2 : k = l.length := by omega
          subst hk2
          go_wp2_with fail
          exact ⟨⟨s + 1, by omega, by go_num, X2.out, R2.out.nextSes L3.out⟩, by simp [intOf] <;> omega⟩
    · have hs2 : s = hs.length := by omega
      have RC9 : Hid (RC hs F hs.length 0 0) := by have := R1.out; rw [hs2] at this; exact this
      have NB : Hid (s = hs.length) := hs2
      obtain ⟨wq, hwq⟩ : ∃ z : World, z = wr := ⟨_, rfl⟩
      subst hwq
      have J0 : Hid (MM w (wq.alloc (.map #[] 0)) R.top hs.length cap wq.heap.size (fun _ => none)) := ⟨X1.out.keep (Upd.alloc [] _ _) (by simp), (MapAt.new wq (ik .u64)).congr (fun _ => rfl), X1.out.size⟩
      obtain ⟨mb, hmb⟩ : ∃ z, z = wq.heap.size := ⟨_, rfl⟩
      have bx := J0.out.m0.box
      rw [← hmb] at J0
      clear hs2 R1
      go_wp2_with fail
      rw [← hmb]
      clear bx hmm
      obtain ⟨W4, hW4⟩ : ∃ z : World, z = wq.alloc (.map #[] 0) := ⟨_, rfl⟩
      rw [← hW4] at J0 ⊢
      clear hW4 hmb
      go_loopw [88] (fun t88 wr => ∃ (s : Nat) (T : Nat → Option Tc), s ≤ hs.length ∧ t88 = .int .i64 s ∧ MM w wr R.top hs.length cap mb T ∧ RU hs s 0 0) (fun u _ => hs.length - (intOf u).toNat)
      case atStart => exact ⟨0, _, by omega, rfl, J0.out, RU.start⟩
      case round =>
        obtain ⟨s, T, hs1', rfl, h2, h5⟩ := hrel
        have X4 : Hid _ := h2
        have Z4 : Hid (RU hs s 0 0) := h5
        clear h2 h5
        by_cases hlt4 : s < hs.length
        · obtain ⟨l, hl3⟩ : ∃ l, hs[s]? = some l := ⟨_, List.getElem?_eq_getElem hlt4⟩
          have L3 : Hid _ := hl3
          obtain ⟨o, c1, c2⟩ := (H'.out.below X4.out.bel).base.ses s l hl3
          have C2 : Hid _ := c2
          have hll := O'.out.small2 l (List.mem_of_getElem? hl3)
          clear c2 hl3
          obtain ⟨wq, hwq⟩ : ∃ z : World, z = wr := ⟨_, rfl⟩
          subst hwq
          have Y4 : Hid (MM w (wq.alloc (.cells #[.int .i64 s] 3)) R.top hs.length cap mb T) := X4.out.keep (Upd.alloc [] _ _) (by simp)
          have c13 : (wq.alloc (.cells #[.int .i64 s] 3)).cell? ⟨wq.heap.size, 0, none⟩ = some (.int .i64 s) := (Blk.new wq #[.int .i64 s] 3).cell 0
          have hz4 : mb < wq.heap.size := X4.out.mT.lt
          go_wp2_with fail
          clear c1
          obtain ⟨p13, hp13⟩ : ∃ z, z = wq.heap.size := ⟨_, rfl⟩
          obtain ⟨wB, hwB⟩ : ∃ z : World, z = wq.alloc (.cells #[.int .i64 s] 3) := ⟨_, rfl⟩
          rw [← hwB] at c13 Y4
          try rw [← hwB]
          rw [← hp13] at c13 ⊢
          have hz13 : mb < p13 := by omega
          clear hwB hp13 hz4
          go_loopw [95] (fun t95 wr => ∃ (k : Nat) (T : Nat → Option Tc), k ≤ l.length ∧ t95 = .int .i64 k ∧ MM w wr R.top hs.length cap mb T ∧ Upd [mb] wB wr ∧ RU hs s k 0) (fun u _ => l.length - (intOf u).toNat)
          case atStart => exact ⟨0, _, by omega, rfl, Y4.out, Upd.refl _ _, Z4.out⟩
          case round =>
            obtain ⟨k, T, hk1, rfl, h2, h3, h5⟩ := hrel
            have X5 : Hid _ := h2
            have U5 : Hid _ := h3
            have Z5 : Hid (RU hs s k 0) := h5
            clear h2 h3 h5
            by_cases hlt5 : k < l.length
            · obtain ⟨t, ht⟩ : ∃ t, l[k]? = some t := ⟨_, List.getElem?_eq_getElem hlt5⟩
              have T3 : Hid _ := ht
              obtain ⟨o2, c3, c4⟩ := (H'.out.below X5.out.bel).base.evs s l k t L3.out ht
              have c5 := (H'.out.below X5.out.bel).base.com s l k t L3.out ht
              have ho : o = some ⟨R.ses s, 0, none⟩ := C2.out (by intro h; rw [h] at hlt5; simp at hlt5)
              subst ho
              have C4 : Hid _ := c4
              have htl := O'.out.small3 l (List.mem_of_getElem? L3.out) t (List.mem_of_getElem? ht)
              have hz5 : mb < wr.heap.size := X5.out.mT.lt
              clear c4 ht
              cases hcm : t.com with
              | false =>
                rw [hcm] at c5
                have Z6 : Hid (RU hs s (k + 1) 0) := Z5.out.skip L3.out T3.out hcm
                clear hcm
                go_wp2_with fail
                have UD := (Upd.alloc [] wr (.cells #[.int .i64 k] 3)).trans (Upd.alloc [] _ (.cells #[.slice o2 t.evs.length (R.ec s k), .bool false] 39)) (by simp)
                exact ⟨⟨k + 1, T, by omega, by go_num, X5.out.keep UD (by simp), U5.out.trans UD (by simp), Z6.out⟩, by simp [intOf] <;> omega⟩
              | true =>
                rw [hcm] at c5
                have CM : Hid (Cm hs s k) := ⟨l, t, L3.out, T3.out, hcm⟩
                clear hcm
                obtain ⟨wq5, hwq5⟩ : ∃ z : World, z = wr := ⟨_, rfl⟩
                subst hwq5
                go_upto_region 26 with fail
                obtain ⟨wD, hwD⟩ : ∃ z : World, z = (wq5.alloc (.cells #[.int .i64 k] 3)).alloc (.cells #[.slice o2 t.evs.length (R.ec s k), .bool true] 39) := ⟨_, rfl⟩
                have UD : Upd [] wq5 wD := by rw [hwD]; exact (Upd.alloc [] _ _).trans (Upd.alloc [] _ _) (by simp)
                have d15 : wD.cell? ⟨wq5.heap.size, 0, none⟩ = some (.int .i64 k) := by
                  rw [hwD]
                  exact (Blk.keep (Blk.new wq5 #[.int .i64 k] 3) (Upd.alloc [] _ _) (by simp)).cell 0
                have d16 : wD.cell? ⟨wq5.heap.size + 1, 0, none⟩ = some (.slice o2 t.evs.length (R.ec s k)) := by
                  have := Blk.new (wq5.alloc (.cells #[.int .i64 k] 3)) #[.slice o2 t.evs.length (R.ec s k), .bool true] 39
                  simp only [World.size_alloc] at this
                  rw [← hwD] at this
                  exact this.cell 0
                have d13 := UD.cell (U5.out.cell c13 (by simp; omega)) (by simp)
                have XD : Hid _ := X5.out.keep UD (by simp)
                have UB : Hid _ := U5.out.trans UD (by simp)
                rw [← hwD]
                obtain ⟨p15, hp15⟩ : ∃ z, z = wq5.heap.size := ⟨_, rfl⟩
                rw [← hp15] at d15 d16 hz5 ⊢
                obtain ⟨p16, hp16⟩ : ∃ z, z = p15 + 1 := ⟨_, rfl⟩
                rw [← hp16] at d16 ⊢
                have hz16 : mb < p16 := by omega
                clear hwD hp15 hp16 c3 c5 UD
                go_wp2_with (refine wpList_wipe rfl (.tmp 103) 118 rfl Ybaz.underlying118 mb _ XD.out.mT rfl ?_; intro wA m2 u2; go_loud (have f16 : wA.cell? ⟨p16, 0, none⟩ = some (.slice o2 t.evs.length (R.ec s k)) := u2.cell d16 (by simp; omega)); go_loud (have f15 : wA.cell? ⟨p15, 0, none⟩ = some (.int .i64 k) := u2.cell d15 (by simp; omega)); go_loud (have f13 : wA.cell? ⟨p13, 0, none⟩ = some (.int .i64 s) := u2.cell d13 (by simp; omega)); have M2 : Hid _ := m2; have U2 : Hid _ := u2; clear m2 u2)
                have XA : Hid _ := XD.out.wipe M2.out U2.out
                have UC : Hid _ := UB.out.trans U2.out (by simp)
                clear d15 d16 d13 M2 U2
                go_loopw [107] (fun t107 wr => ∃ (e : Nat) (T : Nat → Option Tc), e ≤ t.evs.length ∧ t107 = .int .i64 e ∧ MM w wr R.top hs.length cap mb T ∧ TM hs s k e T ∧ Upd [mb] wA wr ∧ RU hs s k e) (fun u _ => t.evs.length - (intOf u).toNat)
                case atStart => exact ⟨0, _, by omega, rfl, XA.out, TM.start hs s k, Upd.refl _ _, Z5.out⟩
                case round => as_aux_lemma =>
                  obtain ⟨e, T, he1, rfl, h2, h3, h4, h5⟩ := hrel
                  have X6 : Hid _ := h2
                  have TI4 : Hid _ := h3
                  have U6 : Hid _ := h4
                  have Z7 : Hid (RU hs s k e) := h5
                  clear h2 h3 h4 h5
                  by_cases hlt6 : e < t.evs.length
                  · obtain ⟨v, hv⟩ : ∃ v, t.evs[e]? = some v := ⟨_, List.getElem?_eq_getElem hlt6⟩
                    have ho2 : o2 = some ⟨R.evs s k, 0, none⟩ := C4.out (by intro h; rw [h] at hlt6; simp at hlt6)
                    subst ho2
                    have HW := H'.out.below X6.out.bel
                    have a0 := HW.ev s l k t e v 0 _ L3.out T3.out hv rfl
                    have a1 := HW.ev s l k t e v 1 _ L3.out T3.out hv rfl
                    have a2 := HW.ev s l k t e v 2 _ L3.out T3.out hv rfl
                    have a3 := HW.ev s l k t e v 3 _ L3.out T3.out hv rfl
                    simp only [Nat.add_zero] at a0
                    have hat : At hs s k e v := ⟨l, t, L3.out, T3.out, hv⟩
                    have hkd := O'.out.kind _ _ _ _ hat
                    have hz6 : mb < wr.heap.size := X6.out.mT.lt
                    have c13 := U6.out.cell f13 (by simp; omega)
                    have c15 := U6.out.cell f15 (by simp; omega)
                    have c16 := U6.out.cell f16 (by simp; omega)
                    have sz6 := U6.out.size
                    have b13 : p13 < wr.heap.size := World.block_lt_of_cell? _ _ c13
                    have b15 : p15 < wr.heap.size := World.block_lt_of_cell? _ _ c15
                    have b16 : p16 < wr.heap.size := World.block_lt_of_cell? _ _ c16
                    clear HW hv
                    have X7 : Hid (∀ A B, MM w ((wr.alloc A).alloc B) R.top hs.length cap mb T) := fun A B => X6.out.keep ((Upd.alloc [] _ _).trans (Upd.alloc [] _ _) (by simp)) (by simp)
                    have X8 : Hid (∀ A B C, MM w (((wr.alloc A).alloc B).alloc C) R.top hs.length cap mb T) := fun A B C => (X7.out A B).keep (Upd.alloc [] _ _) (by simp)
                    have X9 : Hid (∀ A B C D, MM w ((((wr.alloc A).alloc B).alloc C).alloc D) R.top hs.length cap mb T) := fun A B C D => (X8.out A B C).keep (Upd.alloc [] _ _) (by simp)
                    rcases hkd with hk | hk
                    · rw [hk] at a0
                      cases hi : v.i with
                      | true => as_aux_lemma =>
                        rw [hi] at a3
                        have HAT : Hid (At hs s k e v) := hat
                        have HK : Hid (v.k = 0) := hk
                        have HI : Hid (v.i = true) := hi
                        clear hat hk hi
                        go_upto_region 39 with (at_lookup; refine wpList_look1 rfl (.tmp 116) (.tmp 118) 118 rfl Ybaz.underlying118 key35 mb _ (X7.out _ _).mT v.x zero120 rfl rfl (.agg #[.bool (tcOf T v.x).wr, .bool (tcOf T v.x).rd, .int .i64 (tcOf T v.x).w, .int .i64 (tcOf T v.x).f]) (tcOf_val T v.x) ?_)
                        obtain ⟨Wn, hWn⟩ : ∃ z : World, z = (((wr.alloc (.cells #[.int .u8 0, .int .u64 v.x, .int .u64 v.v, .bool true] 37)).alloc (.cells #[.int .i64 s, .int .i64 k, .int .i64 e] 56)).alloc (.cells #[.bool (tcOf T v.x).wr, .bool (tcOf T v.x).rd, .int .i64 (tcOf T v.x).w, .int .i64 (tcOf T v.x).f] 120)).alloc (.cells #[.int .i64 0, .int .i64 0, .int .i64 0, .int .i64 0] 114) := ⟨_, rfl⟩
                        rw [← hWn]
                        have UN : Upd [] wr Wn := by rw [hWn]; exact (((Upd.alloc [] _ _).trans (Upd.alloc [] _ _) (by simp)).trans (Upd.alloc [] _ _) (by simp)).trans (Upd.alloc [] _ _) (by simp)
                        have b0 : Blk Wn wr.heap.size 37 #[.int .u8 0, .int .u64 v.x, .int .u64 v.v, .bool true] := by
                          rw [hWn]
                          exact Blk.keep (Blk.keep (Blk.keep (Blk.new _ _ _) (Upd.alloc [] _ _) (by simp)) (Upd.alloc [] _ _) (by simp)) (Upd.alloc [] _ _) (by simp)
                        have b1 : Blk Wn (wr.heap.size + 1) 56 #[.int .i64 s, .int .i64 k, .int .i64 e] := by
                          rw [hWn]
                          have := Blk.new (wr.alloc (.cells #[.int .u8 0, .int .u64 v.x, .int .u64 v.v, .bool true] 37)) #[.int .i64 s, .int .i64 k, .int .i64 e] 56
                          simp only [World.size_alloc] at this
                          exact Blk.keep (Blk.keep this (Upd.alloc [] _ _) (by simp)) (Upd.alloc [] _ _) (by simp)
                        have OO : Hid (Wn.cell? ⟨wr.heap.size + 1, 0, none⟩ = some (.int .i64 s) ∧ Wn.cell? ⟨wr.heap.size + 1, 1, none⟩ = some (.int .i64 k) ∧ Wn.cell? ⟨wr.heap.size + 1, 2, none⟩ = some (.int .i64 e)) := ⟨b1.cell 0, b1.cell 1, b1.cell 2⟩
                        clear b1
                        have b2 : Blk Wn (wr.heap.size + 2) 120 #[.bool (tcOf T v.x).wr, .bool (tcOf T v.x).rd, .int .i64 (tcOf T v.x).w, .int .i64 (tcOf T v.x).f] := by
                          rw [hWn]
                          have := Blk.new ((wr.alloc (.cells #[.int .u8 0, .int .u64 v.x, .int .u64 v.v, .bool true] 37)).alloc (.cells #[.int .i64 s, .int .i64 k, .int .i64 e] 56)) #[.bool (tcOf T v.x).wr, .bool (tcOf T v.x).rd, .int .i64 (tcOf T v.x).w, .int .i64 (tcOf T v.x).f] 120
                          simp only [World.size_alloc] at this
                          exact Blk.keep this (Upd.alloc [] _ _) (by simp)
                        have b3 : Blk Wn (wr.heap.size + 3) 114 #[.int .i64 0, .int .i64 0, .int .i64 0, .int .i64 0] := by
                          rw [hWn]
                          have := Blk.new (((wr.alloc (.cells #[.int .u8 0, .int .u64 v.x, .int .u64 v.v, .bool true] 37)).alloc (.cells #[.int .i64 s, .int .i64 k, .int .i64 e] 56)).alloc (.cells #[.bool (tcOf T v.x).wr, .bool (tcOf T v.x).rd, .int .i64 (tcOf T v.x).w, .int .i64 (tcOf T v.x).f] 120)) #[.int .i64 0, .int .i64 0, .int .i64 0, .int .i64 0] 114
                          simp only [World.size_alloc] at this
                          exact this
                        have XN' : MM w Wn R.top hs.length cap mb T := X6.out.keep UN (by simp)
                        have e1 : Wn.cell? ⟨wr.heap.size, 1, none⟩ = some (.int .u64 v.x) := b0.cell 1
                        have e2 : Wn.cell? ⟨wr.heap.size, 2, none⟩ = some (.int .u64 v.v) := b0.cell 2
                        have e3 : Wn.cell? ⟨wr.heap.size, 3, none⟩ = some (.bool true) := b0.cell 3
                        have t0 : Wn.cell? ⟨wr.heap.size + 2, 0, none⟩ = some (.bool (tcOf T v.x).wr) := b2.cell 0
                        have t1 : Wn.cell? ⟨wr.heap.size + 2, 1, none⟩ = some (.bool (tcOf T v.x).rd) := b2.cell 1
                        have t2 : Wn.cell? ⟨wr.heap.size + 2, 2, none⟩ = some (.int .i64 (tcOf T v.x).w) := b2.cell 2
                        have t3 : Wn.cell? ⟨wr.heap.size + 2, 3, none⟩ = some (.int .i64 (tcOf T v.x).f) := b2.cell 3
                        have z1 : Wn.frozen? ⟨wr.heap.size + 2, 1, none⟩ = false := Blk.free b2 1
                        have z3 : Wn.frozen? ⟨wr.heap.size + 2, 3, none⟩ = false := Blk.free b2 3
                        have x0 : Wn.cell? ⟨p13, 0, none⟩ = some (.int .i64 s) := UN.cell c13 (by simp)
                        have x1 : Wn.cell? ⟨p15, 0, none⟩ = some (.int .i64 k) := UN.cell c15 (by simp)
                        have x2 : Wn.cell? ⟨p16, 0, none⟩ = some (.slice (some ⟨R.evs s k, 0, none⟩) t.evs.length (R.ec s k)) := UN.cell c16 (by simp)
                        have HN : Hid (HistE Wn R hs) := H'.out.below XN'.bel
                        have XN : Hid _ := XN'
                        have UN2 : Upd [mb] wA Wn := U6.out.trans UN (by simp)
                        clear UN
                        have UN : Hid _ := UN2
                        clear UN2 XN' hWn b0 b2 a0 a1 a2 a3
                        clear b3
                        by_cases hwrb : (tcOf T v.x).wr = false
                        case neg =>
                          as_aux_lemma =>
                          obtain ⟨o0, o1, o2⟩ := OO.out
                          have hw9 : (tcOf T v.x).wr = true := by simpa using hwrb
                          rw [hw9] at t0
                          clear hw9 hwrb
                          go_upto_region 48 with fail

                          have hcon : Hid (∀ ev, Calls Ybaz.prog 27 #[.int .i64 ev, .pointer (some ⟨p13, 0, none⟩), .pointer (some ⟨p15, 0, none⟩)] Wn.drew fun e' w' => e' = .returned (.agg #[.int .i64 s, .int .i64 k, .int .i64 ev]) ∧ Upd [] Wn.drew w') := fun ev => here27 Wn.drew p13 p15 s k ev x0 x1
                          have SU : Hid (∀ z, Upd [] Wn z → (fun z : World => z.cell? ⟨wr.heap.size + 1, 0, none⟩ = some (.int .i64 s) ∧ z.cell? ⟨wr.heap.size + 1, 1, none⟩ = some (.int .i64 k) ∧ z.cell? ⟨wr.heap.size + 1, 2, none⟩ = some (.int .i64 e) ∧ z.cell? ⟨wr.heap.size + 2, 2, none⟩ = some (.int .i64 (tcOf T v.x).w)) z) := fun z hu => ⟨hu.cell o0 (by simp), hu.cell o1 (by simp), hu.cell o2 (by simp), hu.cell t2 (by simp)⟩
                          refine wp_region_noPanic ?_
                          refine wp_lex (fun z : World => z.cell? ⟨wr.heap.size + 1, 0, none⟩ = some (.int .i64 s) ∧ z.cell? ⟨wr.heap.size + 1, 1, none⟩ = some (.int .i64 k) ∧ z.cell? ⟨wr.heap.size + 1, 2, none⟩ = some (.int .i64 e) ∧ z.cell? ⟨wr.heap.size + 2, 2, none⟩ = some (.int .i64 (tcOf T v.x).w)) (fun k => true) (fun k => decide (k < 4)) (by kernel_rfl) (by kernel_rfl) (by kernel_rfl) (fun _ _ _ _ _ h => h) ?_
                          have HSH : Hid ((fun z : World => z.cell? ⟨wr.heap.size + 1, 0, none⟩ = some (.int .i64 s) ∧ z.cell? ⟨wr.heap.size + 1, 1, none⟩ = some (.int .i64 k) ∧ z.cell? ⟨wr.heap.size + 1, 2, none⟩ = some (.int .i64 e) ∧ z.cell? ⟨wr.heap.size + 2, 2, none⟩ = some (.int .i64 (tcOf T v.x).w)) Wn.drew) := SU.out _ (Upd.drew _ _)
                          clear o0 o1 o2 x0 x1
                          iterate 4 (
                            refine LexN.take rfl HSH.out ?_ rfl ?_ ?_
                            rotate_left
                            · intro z hz
                              obtain ⟨hz1, hz2, hz3, hz4⟩ := hz
                              go_simp
                              try with_reducible rfl
                            simp only [Act.put, List.setIfInBounds_toArray, List.set_cons_zero, List.set_cons_succ])
                          refine LexN.step rfl rfl rfl (fun K hK => ?_)
                          go_simp
                          refine Calls.mono (hcon.out _) ?_
                          rintro e' w' ⟨rfl, U9⟩
                          have UU : Hid (Upd [] Wn w') := (Upd.drew [] _).trans U9 (by simp)
                          clear U9
                          refine hK.out _ _ (fun _ => SU.out _ UU.out) ?_
                          refine LexN.step rfl rfl rfl (fun K hK => ?_)
                          go_simp
                          refine hK.out _ _ (fun _ => SU.out _ UU.out) ?_
                          refine LexN.step rfl rfl rfl (fun K hK => ?_)
                          go_simp
                          refine hK.out _ _ (fun _ => SU.out _ (UU.out.trans (Upd.alloc [] _ _) (by simp))) ?_
                          refine LexN.step rfl rfl rfl (fun K hK => ?_)
                          go_simp
                          refine hK.out _ _ (fun _ => SU.out _ (UU.out.trans (Upd.alloc [] _ _) (by simp))) ?_
                          refine LexN.nil (NoPanic.normal ?_)
                          go_wp2_with fail
                          go_ret
                          refine .inr ⟨_, s, k, e, 3, s, k, _, rfl, Blk.new _ _ _, ?_, ?_, .inr RC9.out⟩
                          · have q1 := UU.out.size
                            have q2 := XN.out.m0.bel.size
                            exact Nat.le_trans q2 q1
                          · exact XN.out.m0.bel.trans (Upd.below (S := []) (UU.out.trans (Upd.alloc [] _ _) (by simp)) XN.out.m0.bel.size (by simp))
                        have hnw : Hid (∀ e'' x', e'' < e → At hs s k e'' x' → x'.k = 1 → x'.x ≠ v.x) := TI4.out.ti.none hwrb
                        have hwr : Hid ((tcOf T v.x).wr = false) := hwrb
                        clear hwrb
                        rw [hwr.out] at t0
                        have hat := HAT.out
                        have hk := HK.out
                        have hi := HI.out
                        cases hrd : (tcOf T v.x).rd with
                        | false =>
                          rw [hrd] at t1
                          have MK : Hid _ := TI4.out.mark hat hk hrd
                          have Z8 : Hid (RU hs s k (e + 1)) := Z7.out.step hat (fun _ => RE.ofInit TI4.out hi hwr.out (fun h => by rw [hrd] at h; cases h))
                          clear hrd
                          go_wp2_with (at_mapUpdate; refine wpList_put rfl (.tmp 226) (.tmp 228) (.tmp 229) 118 rfl Ybaz.underlying118 key35 mb _ ((XN.out.mT.keep (Upd.store _ _ _ _) (by simp; omega)).keep (Upd.store _ _ _ _) (by simp; omega)) v.x (.agg #[.bool false, .bool true, .int .i64 (tcOf T v.x).w, .int .i64 e]) rfl rfl rfl ?_; intro w2 m2 u2; have M2 : Hid _ := m2; have U2 : Hid _ := u2; clear m2 u2)
                          refine ⟨⟨e + 1, _, by omega, by go_num, ((XN.out.keep (Upd.store _ _ _ _) (by simp; omega)).keep (Upd.store _ _ _ _) (by simp; omega)).put (c := ⟨(tcOf T v.x).wr, true, (tcOf T v.x).w, e⟩) (by rw [Tc.val, hwr.out]) M2.out U2.out, MK.out, ?_, Z8.out⟩, by simp [intOf] <;> omega⟩
                          exact ((UN.out.trans (Upd.store _ _ _ _) (by simp; omega)).trans (Upd.store _ _ _ _) (by simp; omega)).trans U2.out (by simp)
                        | true =>
                          rw [hrd] at t1
                          have AG := TI4.out.ti.rd _ hrd
                          obtain ⟨f1, y, f2, f2k, f2x⟩ := AG
                          have FY : Hid (At hs s k (tcOf T v.x).f y) := f2
                          by_cases hag : y.i = v.i ∧ y.v = v.v
                          case neg =>
                            as_aux_lemma =>
                            obtain ⟨o0, o1, o2⟩ := OO.out
                            obtain ⟨l8, t8, y1, y2, y3⟩ := f2
                            rw [L3.out] at y1; cases y1
                            rw [T3.out] at y2; cases y2
                            have g3 := HN.out.ev s l k t (tcOf T v.x).f y 3 _ L3.out T3.out y3 rfl
                            have g2 := HN.out.ev s l k t (tcOf T v.x).f y 2 _ L3.out T3.out y3 rfl
                            have f9 : (tcOf T v.x).f < t.evs.length := by omega
                            have f8 : (tcOf T v.x).f < 1000 := by omega
                            go_upto_region 52 with fail
                            go_cut [230] (fun t230 wx => t230 = .bool true ∧ Upd [] Wn wx)
                            case first =>
                              as_aux_lemma =>
                              by_cases hyi : y.i = v.i
                              · have hyv : ¬ y.v = v.v := fun h => hag ⟨hyi, h⟩
                                rw [hyi, hi] at g3
                                have hyv1 : ((y.v : Int) == (v.v : Int)) = false := by simp; omega
                                have hyv2 : ((y.v : Int) != (v.v : Int)) = true := by simp; omega
                                clear hag hyi f1 y3 hrd hi
                                go_big_quiet (fail)
                                go_wp2_with fail
                                all_goals go_meet
                                exact ⟨rfl, Upd.drewN [] _ _⟩
                              · have hyj : y.i = false := by
                                  cases h : y.i
                                  all_goals first | rfl | (exfalso; apply hyi; rw [h, hi])
                                rw [hyj] at g3
                                clear hag hyi hyj f1 y3 hrd hi
                                go_big_quiet (fail)
                                go_wp2_with fail
                                all_goals go_meet
                                exact ⟨rfl, Upd.drewN [] _ _⟩
                            case rest =>
                              as_aux_lemma =>
                              obtain ⟨rfl, uc⟩ := hcut
                              clear hag f1 y3 hrd hi g2 g3
                              obtain ⟨W7, hW7⟩ : ∃ z : World, z = wc := ⟨_, rfl⟩
                              subst hW7
                              have o0 := uc.cell o0 (by simp)
                              have o1 := uc.cell o1 (by simp)
                              have o2 := uc.cell o2 (by simp)
                              have x0 := uc.cell x0 (by simp)
                              have x1 := uc.cell x1 (by simp)
                              have t3 := uc.cell t3 (by simp)
                              have X7 : Hid (Below w.heap.size w W7) := XN.out.m0.bel.trans (uc.below XN.out.m0.bel.size (by simp))
                              clear uc
                              go_upto_region 53 with fail

                              have hcon : Hid (∀ ev, Calls Ybaz.prog 27 #[.int .i64 ev, .pointer (some ⟨p13, 0, none⟩), .pointer (some ⟨p15, 0, none⟩)] W7.drew fun e' w' => e' = .returned (.agg #[.int .i64 s, .int .i64 k, .int .i64 ev]) ∧ Upd [] W7.drew w') := fun ev => here27 W7.drew p13 p15 s k ev x0 x1
                              have SU : Hid (∀ z, Upd [] W7 z → (fun z : World => z.cell? ⟨wr.heap.size + 1, 0, none⟩ = some (.int .i64 s) ∧ z.cell? ⟨wr.heap.size + 1, 1, none⟩ = some (.int .i64 k) ∧ z.cell? ⟨wr.heap.size + 1, 2, none⟩ = some (.int .i64 e) ∧ z.cell? ⟨wr.heap.size + 2, 3, none⟩ = some (.int .i64 (tcOf T v.x).f)) z) := fun z hu => ⟨hu.cell o0 (by simp), hu.cell o1 (by simp), hu.cell o2 (by simp), hu.cell t3 (by simp)⟩
                              refine wp_region_noPanic ?_
                              refine wp_lex (fun z : World => z.cell? ⟨wr.heap.size + 1, 0, none⟩ = some (.int .i64 s) ∧ z.cell? ⟨wr.heap.size + 1, 1, none⟩ = some (.int .i64 k) ∧ z.cell? ⟨wr.heap.size + 1, 2, none⟩ = some (.int .i64 e) ∧ z.cell? ⟨wr.heap.size + 2, 3, none⟩ = some (.int .i64 (tcOf T v.x).f)) (fun k => true) (fun k => decide (k < 4)) (by kernel_rfl) (by kernel_rfl) (by kernel_rfl) (fun _ _ _ _ _ h => h) ?_
                              have HSH : Hid ((fun z : World => z.cell? ⟨wr.heap.size + 1, 0, none⟩ = some (.int .i64 s) ∧ z.cell? ⟨wr.heap.size + 1, 1, none⟩ = some (.int .i64 k) ∧ z.cell? ⟨wr.heap.size + 1, 2, none⟩ = some (.int .i64 e) ∧ z.cell? ⟨wr.heap.size + 2, 3, none⟩ = some (.int .i64 (tcOf T v.x).f)) W7.drew) := SU.out _ (Upd.drew _ _)
                              clear o0 o1 o2 x0 x1
                              iterate 4 (
                                refine LexN.take rfl HSH.out ?_ rfl ?_ ?_
                                rotate_left
                                · intro z hz
                                  obtain ⟨hz1, hz2, hz3, hz4⟩ := hz
                                  go_simp
                                  try with_reducible rfl
                                simp only [Act.put, List.setIfInBounds_toArray, List.set_cons_zero, List.set_cons_succ])
                              refine LexN.step rfl rfl rfl (fun K hK => ?_)
                              go_simp
                              refine Calls.mono (hcon.out _) ?_
                              rintro e' w' ⟨rfl, U9⟩
                              have UU : Hid (Upd [] W7 w') := (Upd.drew [] _).trans U9 (by simp)
                              clear U9
                              refine hK.out _ _ (fun _ => SU.out _ UU.out) ?_
                              refine LexN.step rfl rfl rfl (fun K hK => ?_)
                              go_simp
                              refine hK.out _ _ (fun _ => SU.out _ UU.out) ?_
                              refine LexN.step rfl rfl rfl (fun K hK => ?_)
                              go_simp
                              refine hK.out _ _ (fun _ => SU.out _ (UU.out.trans (Upd.alloc [] _ _) (by simp))) ?_
                              refine LexN.step rfl rfl rfl (fun K hK => ?_)
                              go_simp
                              refine hK.out _ _ (fun _ => SU.out _ (UU.out.trans (Upd.alloc [] _ _) (by simp))) ?_
                              refine LexN.nil (NoPanic.normal ?_)
                              go_wp2_with fail
                              go_ret
                              refine .inr ⟨_, s, k, e, 4, s, k, _, rfl, Blk.new _ _ _, ?_, ?_, .inr RC9.out⟩
                              · have q1 := UU.out.size
                                have q2 := X7.out.size
                                exact Nat.le_trans q2 q1
                              · exact X7.out.trans (Upd.below (S := []) (UU.out.trans (Upd.alloc [] _ _) (by simp)) X7.out.size (by simp))
                          obtain ⟨f3, f4⟩ := hag
                          obtain ⟨l8, t8, y1, y2, y3⟩ := f2
                          rw [L3.out] at y1; cases y1
                          rw [T3.out] at y2; cases y2
                          have g3 := HN.out.ev s l k t (tcOf T v.x).f y 3 _ L3.out T3.out y3 rfl
                          have g2 := HN.out.ev s l k t (tcOf T v.x).f y 2 _ L3.out T3.out y3 rfl
                          rw [f3, hi] at g3
                          rw [f4] at g2
                          have PS : Hid _ := TI4.out.pass hat hk (fun _ => ⟨hrd, y, FY.out, f3, f4⟩)
                          have Z8 : Hid (RU hs s k (e + 1)) := Z7.out.step hat (fun _ => RE.ofInit TI4.out hi hwr.out (fun _ => ⟨y, FY.out, f3, f4⟩))
                          have f9 : (tcOf T v.x).f < t.evs.length := by omega
                          have f8 : (tcOf T v.x).f < 1000 := by omega
                          clear f1 f3 f4 y3 hrd
                          go_upto_region 52 with fail
                          go_big_quiet (fail)
                          go_wp2_with fail
                          exact ⟨⟨e + 1, T, by omega, by go_num, XN.out.keep (Upd.drewN [] _ _) (by simp), PS.out, UN.out.trans (Upd.drewN [] _ _) (by simp), Z8.out⟩, by simp [intOf] <;> omega⟩
                      | false =>
                        rw [hi] at a3
                        obtain ⟨q, x9, g1, g2, g3, g4, g5⟩ := WW.out.read O'.out hat hk hi
                        have FQ : Hid (F v.v = some q) := g1
                        have HAT : Hid (At hs s k e v) := hat
                        have HK : Hid (v.k = 0) := hk
                        have HI : Hid (v.i = false) := hi
                        have G2' : Hid (At hs q.s q.k q.e x9 ∧ x9.k = 1 ∧ x9.x = v.x) := ⟨g2, g3, g5⟩
                        clear g5
                        clear hat hk hi g1 g2 g3 g4
                        go_upto_region 39 with (first | (at_lookup; refine wpList_look1 rfl (.tmp 116) (.tmp 118) 118 rfl Ybaz.underlying118 key35 mb _ (X7.out _ _).mT v.x zero120 rfl rfl (.agg #[.bool (tcOf T v.x).wr, .bool (tcOf T v.x).rd, .int .i64 (tcOf T v.x).w, .int .i64 (tcOf T v.x).f]) (tcOf_val T v.x) ?_) | (at_lookup; refine wpList_look1 rfl (.tmp 134) (.tmp 136) 74 rfl Ybaz.underlying74 key35 b _ (MF.out.below (X9.out _ _ _ _).bel hbw) v.v zero114 rfl rfl (.agg #[.int .i64 q.s, .int .i64 q.k, .int .i64 q.e, .int .i64 q.n]) (by simp only [FQ.out]; rfl) ?_))
                        obtain ⟨Wn, hWn⟩ : ∃ z : World, z = (((wr.alloc (.cells #[.int .u8 0, .int .u64 v.x, .int .u64 v.v, .bool false] 37)).alloc (.cells #[.int .i64 s, .int .i64 k, .int .i64 e] 56)).alloc (.cells #[.bool (tcOf T v.x).wr, .bool (tcOf T v.x).rd, .int .i64 (tcOf T v.x).w, .int .i64 (tcOf T v.x).f] 120)).alloc (.cells #[.int .i64 q.s, .int .i64 q.k, .int .i64 q.e, .int .i64 q.n] 114) := ⟨_, rfl⟩
                        rw [← hWn]
                        have UN : Upd [] wr Wn := by rw [hWn]; exact (((Upd.alloc [] _ _).trans (Upd.alloc [] _ _) (by simp)).trans (Upd.alloc [] _ _) (by simp)).trans (Upd.alloc [] _ _) (by simp)
                        have b0 : Blk Wn wr.heap.size 37 #[.int .u8 0, .int .u64 v.x, .int .u64 v.v, .bool false] := by
                          rw [hWn]
                          exact Blk.keep (Blk.keep (Blk.keep (Blk.new _ _ _) (Upd.alloc [] _ _) (by simp)) (Upd.alloc [] _ _) (by simp)) (Upd.alloc [] _ _) (by simp)
                        have b1 : Blk Wn (wr.heap.size + 1) 56 #[.int .i64 s, .int .i64 k, .int .i64 e] := by
                          rw [hWn]
                          have := Blk.new (wr.alloc (.cells #[.int .u8 0, .int .u64 v.x, .int .u64 v.v, .bool false] 37)) #[.int .i64 s, .int .i64 k, .int .i64 e] 56
                          simp only [World.size_alloc] at this
                          exact Blk.keep (Blk.keep this (Upd.alloc [] _ _) (by simp)) (Upd.alloc [] _ _) (by simp)
                        have OO : Hid (Wn.cell? ⟨wr.heap.size + 1, 0, none⟩ = some (.int .i64 s) ∧ Wn.cell? ⟨wr.heap.size + 1, 1, none⟩ = some (.int .i64 k) ∧ Wn.cell? ⟨wr.heap.size + 1, 2, none⟩ = some (.int .i64 e)) := ⟨b1.cell 0, b1.cell 1, b1.cell 2⟩
                        clear b1
                        have b2 : Blk Wn (wr.heap.size + 2) 120 #[.bool (tcOf T v.x).wr, .bool (tcOf T v.x).rd, .int .i64 (tcOf T v.x).w, .int .i64 (tcOf T v.x).f] := by
                          rw [hWn]
                          have := Blk.new ((wr.alloc (.cells #[.int .u8 0, .int .u64 v.x, .int .u64 v.v, .bool false] 37)).alloc (.cells #[.int .i64 s, .int .i64 k, .int .i64 e] 56)) #[.bool (tcOf T v.x).wr, .bool (tcOf T v.x).rd, .int .i64 (tcOf T v.x).w, .int .i64 (tcOf T v.x).f] 120
                          simp only [World.size_alloc] at this
                          exact Blk.keep this (Upd.alloc [] _ _) (by simp)
                        have b3 : Blk Wn (wr.heap.size + 3) 114 #[.int .i64 q.s, .int .i64 q.k, .int .i64 q.e, .int .i64 q.n] := by
                          rw [hWn]
                          have := Blk.new (((wr.alloc (.cells #[.int .u8 0, .int .u64 v.x, .int .u64 v.v, .bool false] 37)).alloc (.cells #[.int .i64 s, .int .i64 k, .int .i64 e] 56)).alloc (.cells #[.bool (tcOf T v.x).wr, .bool (tcOf T v.x).rd, .int .i64 (tcOf T v.x).w, .int .i64 (tcOf T v.x).f] 120)) #[.int .i64 q.s, .int .i64 q.k, .int .i64 q.e, .int .i64 q.n] 114
                          simp only [World.size_alloc] at this
                          exact this
                        have XN' : MM w Wn R.top hs.length cap mb T := X6.out.keep UN (by simp)
                        have e1 : Wn.cell? ⟨wr.heap.size, 1, none⟩ = some (.int .u64 v.x) := b0.cell 1
                        have e2 : Wn.cell? ⟨wr.heap.size, 2, none⟩ = some (.int .u64 v.v) := b0.cell 2
                        have e3 : Wn.cell? ⟨wr.heap.size, 3, none⟩ = some (.bool false) := b0.cell 3
                        have t0 : Wn.cell? ⟨wr.heap.size + 2, 0, none⟩ = some (.bool (tcOf T v.x).wr) := b2.cell 0
                        have t1 : Wn.cell? ⟨wr.heap.size + 2, 1, none⟩ = some (.bool (tcOf T v.x).rd) := b2.cell 1
                        have t2 : Wn.cell? ⟨wr.heap.size + 2, 2, none⟩ = some (.int .i64 (tcOf T v.x).w) := b2.cell 2
                        have t3 : Wn.cell? ⟨wr.heap.size + 2, 3, none⟩ = some (.int .i64 (tcOf T v.x).f) := b2.cell 3
                        have z1 : Wn.frozen? ⟨wr.heap.size + 2, 1, none⟩ = false := Blk.free b2 1
                        have z3 : Wn.frozen? ⟨wr.heap.size + 2, 3, none⟩ = false := Blk.free b2 3
                        have x0 : Wn.cell? ⟨p13, 0, none⟩ = some (.int .i64 s) := UN.cell c13 (by simp)
                        have x1 : Wn.cell? ⟨p15, 0, none⟩ = some (.int .i64 k) := UN.cell c15 (by simp)
                        have x2 : Wn.cell? ⟨p16, 0, none⟩ = some (.slice (some ⟨R.evs s k, 0, none⟩) t.evs.length (R.ec s k)) := UN.cell c16 (by simp)
                        have HN : Hid (HistE Wn R hs) := H'.out.below XN'.bel
                        have XN : Hid _ := XN'
                        have UN2 : Upd [mb] wA Wn := U6.out.trans UN (by simp)
                        clear UN
                        have UN : Hid _ := UN2
                        clear UN2 XN' hWn b0 b2 a0 a1 a2 a3
                        have q0 : Wn.cell? ⟨wr.heap.size + 3, 0, none⟩ = some (.int .i64 q.s) := b3.cell 0
                        have q1 : Wn.cell? ⟨wr.heap.size + 3, 1, none⟩ = some (.int .i64 q.k) := b3.cell 1
                        have q2 : Wn.cell? ⟨wr.heap.size + 3, 2, none⟩ = some (.int .i64 q.e) := b3.cell 2
                        have q3 : Wn.cell? ⟨wr.heap.size + 3, 3, none⟩ = some (.int .i64 q.n) := b3.cell 3
                        clear b3
                        by_cases own : q.s = s ∧ q.k = k
                        · as_aux_lemma =>
                          by_cases hqe : q.e ≤ e
                          case neg =>
                            as_aux_lemma =>
                            obtain ⟨o0, o1, o2⟩ := OO.out
                            rw [own.1] at q0
                            rw [own.2] at q1
                            have hqe2 : e < q.e := by omega
                            clear own hqe

                            go_wp2_with fail
                            go_ret
                            refine .inr ⟨Wn.heap.size, s, k, e, 2, _, _, _, rfl, Blk.new _ _ _, XN.out.m0.bel.size, ?_, .inr RC9.out⟩
                            exact XN.out.m0.bel.trans ((Upd.alloc [] _ _).below XN.out.m0.bel.size (by simp))
                          by_cases hqw : (tcOf T v.x).w = q.e
                          case neg =>
                            as_aux_lemma =>
                            obtain ⟨o0, o1, o2⟩ := OO.out
                            rw [own.1] at q0
                            rw [own.2] at q1
                            have hqw1 : (((tcOf T v.x).w : Int) == (q.e : Int)) = false := by simp; omega
                            have hqw2 : (((tcOf T v.x).w : Int) != (q.e : Int)) = true := by simp; omega
                            clear own
                            go_upto_region 43 with fail

                            have hcon : Hid (∀ ev, Calls Ybaz.prog 27 #[.int .i64 ev, .pointer (some ⟨p13, 0, none⟩), .pointer (some ⟨p15, 0, none⟩)] Wn.drew fun e' w' => e' = .returned (.agg #[.int .i64 s, .int .i64 k, .int .i64 ev]) ∧ Upd [] Wn.drew w') := fun ev => here27 Wn.drew p13 p15 s k ev x0 x1
                            have SU : Hid (∀ z, Upd [] Wn z → (fun z : World => z.cell? ⟨wr.heap.size + 1, 0, none⟩ = some (.int .i64 s) ∧ z.cell? ⟨wr.heap.size + 1, 1, none⟩ = some (.int .i64 k) ∧ z.cell? ⟨wr.heap.size + 1, 2, none⟩ = some (.int .i64 e) ∧ z.cell? ⟨wr.heap.size + 2, 2, none⟩ = some (.int .i64 (tcOf T v.x).w)) z) := fun z hu => ⟨hu.cell o0 (by simp), hu.cell o1 (by simp), hu.cell o2 (by simp), hu.cell t2 (by simp)⟩
                            refine wp_region_noPanic ?_
                            refine wp_lex (fun z : World => z.cell? ⟨wr.heap.size + 1, 0, none⟩ = some (.int .i64 s) ∧ z.cell? ⟨wr.heap.size + 1, 1, none⟩ = some (.int .i64 k) ∧ z.cell? ⟨wr.heap.size + 1, 2, none⟩ = some (.int .i64 e) ∧ z.cell? ⟨wr.heap.size + 2, 2, none⟩ = some (.int .i64 (tcOf T v.x).w)) (fun k => true) (fun k => decide (k < 4)) (by kernel_rfl) (by kernel_rfl) (by kernel_rfl) (fun _ _ _ _ _ h => h) ?_
                            have HSH : Hid ((fun z : World => z.cell? ⟨wr.heap.size + 1, 0, none⟩ = some (.int .i64 s) ∧ z.cell? ⟨wr.heap.size + 1, 1, none⟩ = some (.int .i64 k) ∧ z.cell? ⟨wr.heap.size + 1, 2, none⟩ = some (.int .i64 e) ∧ z.cell? ⟨wr.heap.size + 2, 2, none⟩ = some (.int .i64 (tcOf T v.x).w)) Wn.drew) := SU.out _ (Upd.drew _ _)
                            clear o0 o1 o2 x0 x1
                            iterate 4 (
                              refine LexN.take rfl HSH.out ?_ rfl ?_ ?_
                              rotate_left
                              · intro z hz
                                obtain ⟨hz1, hz2, hz3, hz4⟩ := hz
                                go_simp
                                try with_reducible rfl
                              simp only [Act.put, List.setIfInBounds_toArray, List.set_cons_zero, List.set_cons_succ])
                            refine LexN.step rfl rfl rfl (fun K hK => ?_)
                            go_simp
                            refine Calls.mono (hcon.out _) ?_
                            rintro e' w' ⟨rfl, U9⟩
                            have UU : Hid (Upd [] Wn w') := (Upd.drew [] _).trans U9 (by simp)
                            clear U9
                            refine hK.out _ _ (fun _ => SU.out _ UU.out) ?_
                            refine LexN.step rfl rfl rfl (fun K hK => ?_)
                            go_simp
                            refine hK.out _ _ (fun _ => SU.out _ UU.out) ?_
                            refine LexN.step rfl rfl rfl (fun K hK => ?_)
                            go_simp
                            refine hK.out _ _ (fun _ => SU.out _ (UU.out.trans (Upd.alloc [] _ _) (by simp))) ?_
                            refine LexN.step rfl rfl rfl (fun K hK => ?_)
                            go_simp
                            refine hK.out _ _ (fun _ => SU.out _ (UU.out.trans (Upd.alloc [] _ _) (by simp))) ?_
                            refine LexN.nil (NoPanic.normal ?_)
                            go_wp2_with fail
                            go_ret
                            refine .inr ⟨_, s, k, e, 1, s, k, _, rfl, Blk.new _ _ _, ?_, ?_, .inr RC9.out⟩
                            · have q1 := UU.out.size
                              have q2 := XN.out.m0.bel.size
                              exact Nat.le_trans q2 q1
                            · exact XN.out.m0.bel.trans (Upd.below (S := []) (UU.out.trans (Upd.alloc [] _ _) (by simp)) XN.out.m0.bel.size (by simp))
                          have Z8 : Hid (RU hs s k (e + 1)) := Z7.out.step HAT.out (fun _ => RE.ofOwn O'.out WW.out TI4.out HAT.out HK.out HI.out FQ.out own.1 own.2 hqe hqw)
                          rw [hqw] at t2
                          rw [own.1] at q0
                          rw [own.2] at q1
                          have PS : Hid (TM hs s k (e + 1) T) := TI4.out.pass HAT.out HK.out (fun hn => by
                            exfalso
                            obtain ⟨h1, h2, h3⟩ := G2'.out
                            rw [own.1, own.2] at h1
                            have hlt : q.e < e := by
                              by_cases c : q.e = e
                              · rw [c] at h1; have := h1.same HAT.out; subst this; have := HK.out; omega
                              · omega
                            exact hn q.e x9 hlt h1 h2 h3)
                          have r1 : q.e ≤ e := hqe
                          clear own hqe hqw
                          go_wp2_with fail
                          exact ⟨⟨e + 1, T, by omega, by go_num, XN.out, PS.out, UN.out, Z8.out⟩, by simp [intOf] <;> omega⟩
                        · as_aux_lemma =>
                          have OWN : Hid (¬ (q.s = s ∧ q.k = k)) := own
                          go_cut [23] (fun t23 wx => wx = Wn ∧ t23 = .bool false)
                          case first =>
                            as_aux_lemma =>
                            by_cases own1 : q.s = s
                            · have own2 : ¬ q.k = k := fun z => own ⟨own1, z⟩
                              rw [own1] at q0
                              clear own own1
                              have own3 : ((q.k : Int) == (k : Int)) = false := by rw [beq_eq_false_iff_ne]; omega
                              go_wp2_with fail
                              all_goals go_meet
                              exact ⟨rfl, by first | rfl | rw [own3]⟩
                            · clear own
                              go_wp2_with fail
                              all_goals go_meet
                              exact ⟨rfl, rfl⟩
                          case rest =>
                            obtain ⟨hwc, rfl⟩ := hcut
                            subst hwc
                            obtain ⟨Wn, hWn9⟩ : ∃ z : World, z = wc := ⟨_, rfl⟩
                            subst hWn9
                            clear own
                            by_cases hqn : q.n < 0
                            case neg =>
                              as_aux_lemma =>
                              obtain ⟨o0, o1, o2⟩ := OO.out
                              have hqn2 : (0 : Int) ≤ q.n := by omega
                              clear hqn

                              go_wp2_with fail
                              go_ret
                              refine .inr ⟨Wn.heap.size, s, k, e, 1, _, _, _, rfl, Blk.new _ _ _, XN.out.m0.bel.size, ?_, .inr RC9.out⟩
                              exact XN.out.m0.bel.trans ((Upd.alloc [] _ _).below XN.out.m0.bel.size (by simp))
                            have QN : Hid (q.n < 0) := hqn
                            have hqn2 : ¬ (0 : Int) ≤ q.n := by omega
                            by_cases hwrb : (tcOf T v.x).wr = false
                            case neg =>
                              as_aux_lemma =>
                              obtain ⟨o0, o1, o2⟩ := OO.out
                              have hw9 : (tcOf T v.x).wr = true := by simpa using hwrb
                              rw [hw9] at t0
                              clear hw9 hwrb
                              go_upto_region 48 with fail

                              have hcon : Hid (∀ ev, Calls Ybaz.prog 27 #[.int .i64 ev, .pointer (some ⟨p13, 0, none⟩), .pointer (some ⟨p15, 0, none⟩)] Wn.drew fun e' w' => e' = .returned (.agg #[.int .i64 s, .int .i64 k, .int .i64 ev]) ∧ Upd [] Wn.drew w') := fun ev => here27 Wn.drew p13 p15 s k ev x0 x1
                              have SU : Hid (∀ z, Upd [] Wn z → (fun z : World => z.cell? ⟨wr.heap.size + 1, 0, none⟩ = some (.int .i64 s) ∧ z.cell? ⟨wr.heap.size + 1, 1, none⟩ = some (.int .i64 k) ∧ z.cell? ⟨wr.heap.size + 1, 2, none⟩ = some (.int .i64 e) ∧ z.cell? ⟨wr.heap.size + 2, 2, none⟩ = some (.int .i64 (tcOf T v.x).w)) z) := fun z hu => ⟨hu.cell o0 (by simp), hu.cell o1 (by simp), hu.cell o2 (by simp), hu.cell t2 (by simp)⟩
                              refine wp_region_noPanic ?_
                              refine wp_lex (fun z : World => z.cell? ⟨wr.heap.size + 1, 0, none⟩ = some (.int .i64 s) ∧ z.cell? ⟨wr.heap.size + 1, 1, none⟩ = some (.int .i64 k) ∧ z.cell? ⟨wr.heap.size + 1, 2, none⟩ = some (.int .i64 e) ∧ z.cell? ⟨wr.heap.size + 2, 2, none⟩ = some (.int .i64 (tcOf T v.x).w)) (fun k => true) (fun k => decide (k < 4)) (by kernel_rfl) (by kernel_rfl) (by kernel_rfl) (fun _ _ _ _ _ h => h) ?_
                              have HSH : Hid ((fun z : World => z.cell? ⟨wr.heap.size + 1, 0, none⟩ = some (.int .i64 s) ∧ z.cell? ⟨wr.heap.size + 1, 1, none⟩ = some (.int .i64 k) ∧ z.cell? ⟨wr.heap.size + 1, 2, none⟩ = some (.int .i64 e) ∧ z.cell? ⟨wr.heap.size + 2, 2, none⟩ = some (.int .i64 (tcOf T v.x).w)) Wn.drew) := SU.out _ (Upd.drew _ _)
                              clear o0 o1 o2 x0 x1
                              iterate 4 (
                                refine LexN.take rfl HSH.out ?_ rfl ?_ ?_
                                rotate_left
                                · intro z hz
                                  obtain ⟨hz1, hz2, hz3, hz4⟩ := hz
                                  go_simp
                                  try with_reducible rfl
                                simp only [Act.put, List.setIfInBounds_toArray, List.set_cons_zero, List.set_cons_succ])
                              refine LexN.step rfl rfl rfl (fun K hK => ?_)
                              go_simp
                              refine Calls.mono (hcon.out _) ?_
                              rintro e' w' ⟨rfl, U9⟩
                              have UU : Hid (Upd [] Wn w') := (Upd.drew [] _).trans U9 (by simp)
                              clear U9
                              refine hK.out _ _ (fun _ => SU.out _ UU.out) ?_
                              refine LexN.step rfl rfl rfl (fun K hK => ?_)
                              go_simp
                              refine hK.out _ _ (fun _ => SU.out _ UU.out) ?_
                              refine LexN.step rfl rfl rfl (fun K hK => ?_)
                              go_simp
                              refine hK.out _ _ (fun _ => SU.out _ (UU.out.trans (Upd.alloc [] _ _) (by simp))) ?_
                              refine LexN.step rfl rfl rfl (fun K hK => ?_)
                              go_simp
                              refine hK.out _ _ (fun _ => SU.out _ (UU.out.trans (Upd.alloc [] _ _) (by simp))) ?_
                              refine LexN.nil (NoPanic.normal ?_)
                              go_wp2_with fail
                              go_ret
                              refine .inr ⟨_, s, k, e, 3, s, k, _, rfl, Blk.new _ _ _, ?_, ?_, .inr RC9.out⟩
                              · have q1 := UU.out.size
                                have q2 := XN.out.m0.bel.size
                                exact Nat.le_trans q2 q1
                              · exact XN.out.m0.bel.trans (Upd.below (S := []) (UU.out.trans (Upd.alloc [] _ _) (by simp)) XN.out.m0.bel.size (by simp))
                            have hnw : Hid (∀ e'' x', e'' < e → At hs s k e'' x' → x'.k = 1 → x'.x ≠ v.x) := TI4.out.ti.none hwrb
                            have hwr : Hid ((tcOf T v.x).wr = false) := hwrb
                            clear hwrb hqn
                            rw [hwr.out] at t0
                            have hat := HAT.out
                            have hk := HK.out
                            have hi := HI.out
                            as_aux_lemma =>
                              cases hrd : (tcOf T v.x).rd with
                              | false =>
                                rw [hrd] at t1
                                have MK : Hid _ := TI4.out.mark hat hk hrd
                                have Z8 : Hid (RU hs s k (e + 1)) := Z7.out.step hat (fun _ => RE.ofOther O'.out WW.out TI4.out hat hk hi FQ.out OWN.out QN.out hwr.out (fun h => by rw [hrd] at h; cases h))
                                clear hrd
                                go_wp2_with (at_mapUpdate; refine wpList_put rfl (.tmp 226) (.tmp 228) (.tmp 229) 118 rfl Ybaz.underlying118 key35 mb _ ((XN.out.mT.keep (Upd.store _ _ _ _) (by simp; omega)).keep (Upd.store _ _ _ _) (by simp; omega)) v.x (.agg #[.bool false, .bool true, .int .i64 (tcOf T v.x).w, .int .i64 e]) rfl rfl rfl ?_; intro w2 m2 u2; have M2 : Hid _ := m2; have U2 : Hid _ := u2; clear m2 u2)
                                refine ⟨⟨e + 1, _, by omega, by go_num, ((XN.out.keep (Upd.store _ _ _ _) (by simp; omega)).keep (Upd.store _ _ _ _) (by simp; omega)).put (c := ⟨(tcOf T v.x).wr, true, (tcOf T v.x).w, e⟩) (by rw [Tc.val, hwr.out]) M2.out U2.out, MK.out, ?_, Z8.out⟩, by simp [intOf] <;> omega⟩
                                exact ((UN.out.trans (Upd.store _ _ _ _) (by simp; omega)).trans (Upd.store _ _ _ _) (by simp; omega)).trans U2.out (by simp)
                              | true =>
                                rw [hrd] at t1
                                have AG := TI4.out.ti.rd _ hrd
                                obtain ⟨f1, y, f2, f2k, f2x⟩ := AG
                                have FY : Hid (At hs s k (tcOf T v.x).f y) := f2
                                by_cases hag : y.i = v.i ∧ y.v = v.v
                                case neg =>
                                  as_aux_lemma =>
                                  obtain ⟨o0, o1, o2⟩ := OO.out
                                  obtain ⟨l8, t8, y1, y2, y3⟩ := f2
                                  rw [L3.out] at y1; cases y1
                                  rw [T3.out] at y2; cases y2
                                  have g3 := HN.out.ev s l k t (tcOf T v.x).f y 3 _ L3.out T3.out y3 rfl
                                  have g2 := HN.out.ev s l k t (tcOf T v.x).f y 2 _ L3.out T3.out y3 rfl
                                  have f9 : (tcOf T v.x).f < t.evs.length := by omega
                                  have f8 : (tcOf T v.x).f < 1000 := by omega
                                  go_upto_region 52 with fail
                                  go_cut [230] (fun t230 wx => t230 = .bool true ∧ Upd [] Wn wx)
                                  case first =>
                                    as_aux_lemma =>
                                    by_cases hyi : y.i = v.i
                                    · have hyv : ¬ y.v = v.v := fun h => hag ⟨hyi, h⟩
                                      rw [hyi, hi] at g3
                                      have hyv1 : ((y.v : Int) == (v.v : Int)) = false := by simp; omega
                                      have hyv2 : ((y.v : Int) != (v.v : Int)) = true := by simp; omega
                                      clear hag hyi f1 y3 hrd hi
                                      go_big_quiet (fail)
                                      go_wp2_with fail
                                      all_goals go_meet
                                      exact ⟨rfl, Upd.drewN [] _ _⟩
                                    · have hyj : y.i = true := by
                                        cases h : y.i
                                        all_goals first | rfl | (exfalso; apply hyi; rw [h, hi])
                                      rw [hyj] at g3
                                      clear hag hyi hyj f1 y3 hrd hi
                                      go_big_quiet (fail)
                                      go_wp2_with fail
                                      all_goals go_meet
                                      exact ⟨rfl, Upd.drewN [] _ _⟩
                                  case rest =>
                                    as_aux_lemma =>
                                    obtain ⟨rfl, uc⟩ := hcut
                                    clear hag f1 y3 hrd hi g2 g3
                                    obtain ⟨W7, hW7⟩ : ∃ z : World, z = wc := ⟨_, rfl⟩
                                    subst hW7
                                    have o0 := uc.cell o0 (by simp)
                                    have o1 := uc.cell o1 (by simp)
                                    have o2 := uc.cell o2 (by simp)
                                    have x0 := uc.cell x0 (by simp)
                                    have x1 := uc.cell x1 (by simp)
                                    have t3 := uc.cell t3 (by simp)
                                    have X7 : Hid (Below w.heap.size w W7) := XN.out.m0.bel.trans (uc.below XN.out.m0.bel.size (by simp))
                                    clear uc
                                    go_upto_region 53 with fail

                                    have hcon : Hid (∀ ev, Calls Ybaz.prog 27 #[.int .i64 ev, .pointer (some ⟨p13, 0, none⟩), .pointer (some ⟨p15, 0, none⟩)] W7.drew fun e' w' => e' = .returned (.agg #[.int .i64 s, .int .i64 k, .int .i64 ev]) ∧ Upd [] W7.drew w') := fun ev => here27 W7.drew p13 p15 s k ev x0 x1
                                    have SU : Hid (∀ z, Upd [] W7 z → (fun z : World => z.cell? ⟨wr.heap.size + 1, 0, none⟩ = some (.int .i64 s) ∧ z.cell? ⟨wr.heap.size + 1, 1, none⟩ = some (.int .i64 k) ∧ z.cell? ⟨wr.heap.size + 1, 2, none⟩ = some (.int .i64 e) ∧ z.cell? ⟨wr.heap.size + 2, 3, none⟩ = some (.int .i64 (tcOf T v.x).f)) z) := fun z hu => ⟨hu.cell o0 (by simp), hu.cell o1 (by simp), hu.cell o2 (by simp), hu.cell t3 (by simp)⟩
                                    refine wp_region_noPanic ?_
                                    refine wp_lex (fun z : World => z.cell? ⟨wr.heap.size + 1, 0, none⟩ = some (.int .i64 s) ∧ z.cell? ⟨wr.heap.size + 1, 1, none⟩ = some (.int .i64 k) ∧ z.cell? ⟨wr.heap.size + 1, 2, none⟩ = some (.int .i64 e) ∧ z.cell? ⟨wr.heap.size + 2, 3, none⟩ = some (.int .i64 (tcOf T v.x).f)) (fun k => true) (fun k => decide (k < 4)) (by kernel_rfl) (by kernel_rfl) (by kernel_rfl) (fun _ _ _ _ _ h => h) ?_
                                    have HSH : Hid ((fun z : World => z.cell? ⟨wr.heap.size + 1, 0, none⟩ = some (.int .i64 s) ∧ z.cell? ⟨wr.heap.size + 1, 1, none⟩ = some (.int .i64 k) ∧ z.cell? ⟨wr.heap.size + 1, 2, none⟩ = some (.int .i64 e) ∧ z.cell? ⟨wr.heap.size + 2, 3, none⟩ = some (.int .i64 (tcOf T v.x).f)) W7.drew) := SU.out _ (Upd.drew _ _)
                                    clear o0 o1 o2 x0 x1
                                    iterate 4 (
                                      refine LexN.take rfl HSH.out ?_ rfl ?_ ?_
                                      rotate_left
                                      · intro z hz
                                        obtain ⟨hz1, hz2, hz3, hz4⟩ := hz
                                        go_simp
                                        try with_reducible rfl
                                      simp only [Act.put, List.setIfInBounds_toArray, List.set_cons_zero, List.set_cons_succ])
                                    refine LexN.step rfl rfl rfl (fun K hK => ?_)
                                    go_simp
                                    refine Calls.mono (hcon.out _) ?_
                                    rintro e' w' ⟨rfl, U9⟩
                                    have UU : Hid (Upd [] W7 w') := (Upd.drew [] _).trans U9 (by simp)
                                    clear U9
                                    refine hK.out _ _ (fun _ => SU.out _ UU.out) ?_
                                    refine LexN.step rfl rfl rfl (fun K hK => ?_)
                                    go_simp
                                    refine hK.out _ _ (fun _ => SU.out _ UU.out) ?_
                                    refine LexN.step rfl rfl rfl (fun K hK => ?_)
                                    go_simp
                                    refine hK.out _ _ (fun _ => SU.out _ (UU.out.trans (Upd.alloc [] _ _) (by simp))) ?_
                                    refine LexN.step rfl rfl rfl (fun K hK => ?_)
                                    go_simp
                                    refine hK.out _ _ (fun _ => SU.out _ (UU.out.trans (Upd.alloc [] _ _) (by simp))) ?_
                                    refine LexN.nil (NoPanic.normal ?_)
                                    go_wp2_with fail
                                    go_ret
                                    refine .inr ⟨_, s, k, e, 4, s, k, _, rfl, Blk.new _ _ _, ?_, ?_, .inr RC9.out⟩
                                    · have q1 := UU.out.size
                                      have q2 := X7.out.size
                                      exact Nat.le_trans q2 q1
                                    · exact X7.out.trans (Upd.below (S := []) (UU.out.trans (Upd.alloc [] _ _) (by simp)) X7.out.size (by simp))
                                obtain ⟨f3, f4⟩ := hag
                                obtain ⟨l8, t8, y1, y2, y3⟩ := f2
                                rw [L3.out] at y1; cases y1
                                rw [T3.out] at y2; cases y2
                                have g3 := HN.out.ev s l k t (tcOf T v.x).f y 3 _ L3.out T3.out y3 rfl
                                have g2 := HN.out.ev s l k t (tcOf T v.x).f y 2 _ L3.out T3.out y3 rfl
                                rw [f3, hi] at g3
                                rw [f4] at g2
                                have PS : Hid _ := TI4.out.pass hat hk (fun _ => ⟨hrd, y, FY.out, f3, f4⟩)
                                have Z8 : Hid (RU hs s k (e + 1)) := Z7.out.step hat (fun _ => RE.ofOther O'.out WW.out TI4.out hat hk hi FQ.out OWN.out QN.out hwr.out (fun _ => ⟨y, FY.out, f3, f4⟩))
                                have f9 : (tcOf T v.x).f < t.evs.length := by omega
                                have f8 : (tcOf T v.x).f < 1000 := by omega
                                clear f1 f3 f4 y3 hrd
                                go_upto_region 52 with fail
                                go_big_quiet (fail)
                                go_wp2_with fail
                                exact ⟨⟨e + 1, T, by omega, by go_num, XN.out.keep (Upd.drewN [] _ _) (by simp), PS.out, UN.out.trans (Upd.drewN [] _ _) (by simp), Z8.out⟩, by simp [intOf] <;> omega⟩
                    · as_aux_lemma =>
                      rw [hk] at a0
                      have TW : Hid _ := TI4.out.write hat hk
                      have Z8 : Hid (RU hs s k (e + 1)) := Z7.out.step hat (fun h => by omega)
                      have hvi := O'.out.wi _ _ _ _ hat hk
                      rw [hvi] at a3
                      clear hat hk hvi
                      go_wp2_with (first
                        | (at_lookup; refine wpList_look1 rfl (.tmp 116) (.tmp 118) 118 rfl Ybaz.underlying118 key35 mb _ (X7.out _ _).mT v.x zero120 rfl rfl (.agg #[.bool (tcOf T v.x).wr, .bool (tcOf T v.x).rd, .int .i64 (tcOf T v.x).w, .int .i64 (tcOf T v.x).f]) (tcOf_val T v.x) ?_)
                        | (at_mapUpdate; refine wpList_put rfl (.tmp 126) (.tmp 128) (.tmp 129) 118 rfl Ybaz.underlying118 key35 mb _ (X8.out _ _ _).mT v.x (.agg #[.bool true, .bool (tcOf T v.x).rd, .int .i64 e, .int .i64 (tcOf T v.x).f]) rfl rfl rfl ?_; intro w2 m2 u2; have M2 : Hid _ := m2; have U2 : Hid _ := u2; clear m2 u2))
                      refine ⟨⟨e + 1, _, by omega, by go_num, (X8.out _ _ _).put (c := ⟨true, (tcOf T v.x).rd, e, (tcOf T v.x).f⟩) rfl M2.out U2.out, TW.out, ?_, Z8.out⟩, by simp [intOf] <;> omega⟩
                      exact (U6.out.trans (((Upd.alloc [] _ _).trans (Upd.alloc [] _ _) (by simp)).trans (Upd.alloc [] _ _) (by simp)) (by simp)).trans U2.out (by simp)
                  · have he2 : e = t.evs.length := by omega
                    subst he2
                    go_wp2_with fail
                    exact ⟨⟨k + 1, T, by omega, by go_num, X6.out, UC.out.trans U6.out (by simp), Z7.out.nextTxn L3.out T3.out⟩, by simp [intOf] <;> omega⟩
            · have hk2 : k = l.length := by omega
              subst hk2
              go_wp2_with fail
              exact ⟨⟨s + 1, T, by omega, by go_num, X5.out, Z5.out.nextSes L3.out⟩, by simp [intOf] <;> omega⟩
        · have hs2 : s = hs.length := by omega
          subst hs2
          go_wp2_with fail
          go_ret
          exact .inl ⟨rfl, ROk.of WW.out Z4.out RC9.out, RC9.out, X4.out.bel⟩
end Go.Proofs.YbulkctquGreatFmt

/-
  misread, walked over a history of which it finds none.
-/
import Derived.Test.YbulkctquGreatFmtVers
import Derived.Test.YbulkctquGreatFmtMisP
namespace Go.Proofs.YbulkctquGreatFmt
open Go.ChangeShapes Go.WideShapes Go.ChangeAt Go.RowKit Go.Ord
set_option linter.unusedVariables false

theorem field114_0 (a b c d : Value) (w : World) : (Instr.field 114 (.agg #[a, b, c, d]) 0).run Ybaz.prog w = .ok (.agg #[a, b, c]) w := by
  have h : (Ybaz.prog.info? 56).map (fun i => i.size) = some 3 := by kernel_rfl
  cases hq : Ybaz.prog.info? 56 with
  | none => rw [hq] at h; cases h
  | some i => rw [hq] at h; simp at h; simp [Instr.field, run_underlying Ybaz.underlying114, asAgg, part, isAgg, run_underlying Ybaz.underlying56, Go.sizeOf, typeInfo, hq, h]
theorem zero120 (w : World) : (zeroValue 120).run Ybaz.prog w = .ok (.agg #[.bool false, .bool false, .int .i64 0, .int .i64 0]) w := by
  have h : (Ybaz.prog.info? 120).map (fun i => i.zero) = some (some (.agg #[.bool false, .bool false, .int .i64 0, .int .i64 0])) := by kernel_rfl
  cases hq : Ybaz.prog.info? 120 with
  | none => rw [hq] at h; cases h
  | some i => rw [hq] at h; simp at h; simp [zeroValue, typeInfo, hq, h]
theorem _root_.Go.Ord.MapAt.below {κ : Type} [DecidableEq κ] {kv : κ → Value} {w w' : World} {b B : Nat} {f : κ → Option Value} (h : MapAt w kv b f) (hb : Below B w w') (hB : b < B) : MapAt w' kv b f := by
  obtain ⟨es, c, h1, h2⟩ := h.lies
  exact ⟨es, c, (hb.block b hB).trans h1, h2⟩

structure M0 (w0 w : World) (top n cap : Nat) : Prop where
  bel : Below w0.heap.size w0 w
  box : w.cell? ⟨w0.heap.size, 0, none⟩ = some (.slice (some ⟨top, 0, none⟩) n cap)
theorem M0.size {w0 w : World} {top n cap : Nat} (h : M0 w0 w top n cap) : w0.heap.size + 1 ≤ w.heap.size := World.block_lt_of_cell? _ _ h.box
theorem M0.keep {w0 w w' : World} {top n cap : Nat} (h : M0 w0 w top n cap) {S : List Nat} (hu : Upd S w w') (hS : ∀ k ∈ S, w0.heap.size + 1 ≤ k) : M0 w0 w' top n cap :=
  ⟨h.bel.trans (hu.below h.bel.size (fun k hk => by have := hS k hk; omega)), hu.cell h.box (fun hm => by have := hS _ hm; omega)⟩
theorem M0.first (w : World) (top n cap : Nat) : M0 w (w.alloc (.cells #[.slice (some ⟨top, 0, none⟩) n cap] 29)) top n cap :=
  ⟨(Upd.alloc [] _ _).below (Nat.le_refl _) (by simp), (Blk.new w #[.slice (some ⟨top, 0, none⟩) n cap] 29).cell 0⟩
structure MM (w0 w : World) (top n cap mb : Nat) (T : Nat → Option Tc) : Prop where
  m0 : M0 w0 w top n cap
  mT : MapAt w (ik .u64) mb (fun v => (T v).map Tc.val)
  hmb : w0.heap.size + 1 ≤ mb
theorem MM.bel {w0 w : World} {top n cap mb : Nat} {T : Nat → Option Tc} (h : MM w0 w top n cap mb T) : Below w0.heap.size w0 w := h.m0.bel
theorem MM.keep {w0 w w' : World} {top n cap mb : Nat} {T : Nat → Option Tc} (h : MM w0 w top n cap mb T) {S : List Nat} (hu : Upd S w w') (hS : ∀ k ∈ S, mb + 1 ≤ k) : MM w0 w' top n cap mb T :=
  ⟨h.m0.keep hu (fun k hk => by have := hS k hk; have := h.hmb; omega), h.mT.keep hu (fun hm => by have := hS _ hm; omega), h.hmb⟩
theorem MM.wipe {w0 w w' : World} {top n cap mb : Nat} {T : Nat → Option Tc} (h : MM w0 w top n cap mb T) (m : MapAt w' (ik .u64) mb (fun _ => none)) (hu : Upd [mb] w w') : MM w0 w' top n cap mb (fun _ => none) :=
  ⟨h.m0.keep hu (by simpa using h.hmb), m.congr (fun _ => rfl), h.hmb⟩
theorem MM.put {w0 w w' : World} {top n cap mb : Nat} {T : Nat → Option Tc} (h : MM w0 w top n cap mb T) {y : Nat} {c : Tc} {V : Value} (hV : V = c.val) (m : MapAt w' (ik .u64) mb (fun v => if v = y then some V else (T v).map Tc.val)) (hu : Upd [mb] w w') : MM w0 w' top n cap mb (tset T y c) := by
  subst hV
  refine ⟨h.m0.keep hu (by simpa using h.hmb), m.congr (fun v => ?_), h.hmb⟩
  by_cases e : v = y <;> simp [tset, e]

set_option maxHeartbeats 16000000 in
set_option maxRecDepth 100000 in
theorem misread13 (w : World) (R : HR) (hs : List (List Tx)) (H : HistE w R hs) (O : HOk hs) (cap b : Nat) (F : Nat → Option Wr) (hF : MapAt w (ik .u64) b (fun v => (F v).map Wr.val)) (W : WF hs F) (Q : ROk hs) :
    Calls Ybaz.prog 13 #[.agg #[.slice (some ⟨R.top, 0, none⟩) hs.length cap], .map (some b)] w fun r w' => r = .returned (.pointer none) ∧ Below w.heap.size w w' := by
  have H' : Hid _ := H
  have O' : Hid _ := O
  have WW : Hid _ := W
  have RO : Hid _ := Q
  have MF : Hid _ := hF
  have hbw : b < w.heap.size := hF.lt
  have I0 : Hid _ := M0.first w R.top hs.length cap
  have S1 := O.small
  clear H O W Q hF
  have hmm := @run_makeMap Ybaz.prog
  have hfl := field114_0
  go_enter Ybaz.func13, Ybaz.ntmps13
  go_wp2_with fail
  obtain ⟨W3, hW3⟩ : ∃ z : World, z = w.alloc (.cells #[.slice (some ⟨R.top, 0, none⟩) hs.length cap] 29) := ⟨_, rfl⟩
  rw [← hW3] at I0 ⊢
  clear hW3
  go_loopw [27] (fun t27 wr => ∃ (s : Nat), s ≤ hs.length ∧ t27 = .int .i64 s ∧ M0 w wr R.top hs.length cap) (fun u _ => hs.length - (intOf u).toNat)
  case atStart => exact ⟨0, by omega, rfl, I0.out⟩
  case round =>
    obtain ⟨s, hs1, rfl, h2⟩ := hrel
    have X1 : Hid _ := h2
    clear h2
    by_cases hlt : s < hs.length
    · obtain ⟨l, hl3⟩ : ∃ l, hs[s]? = some l := ⟨_, List.getElem?_eq_getElem hlt⟩
      have L3 : Hid _ := hl3
      obtain ⟨o, c1, c2⟩ := (H'.out.below X1.out.bel).base.ses s l hl3
      have C2 : Hid _ := c2
      have hll := O'.out.small2 l (List.mem_of_getElem? hl3)
      clear c2 hl3
      go_wp2_with fail
      clear c1
      go_loopw [34] (fun t34 wr => ∃ (k : Nat), k ≤ l.length ∧ t34 = .int .i64 k ∧ M0 w wr R.top hs.length cap) (fun u _ => l.length - (intOf u).toNat)
      case atStart => exact ⟨0, by omega, rfl, X1.out⟩
      case round =>
        obtain ⟨k, hk1, rfl, h2⟩ := hrel
        have X2 : Hid _ := h2
        clear h2
        by_cases hlt2 : k < l.length
        · obtain ⟨t, ht⟩ : ∃ t, l[k]? = some t := ⟨_, List.getElem?_eq_getElem hlt2⟩
          have T3 : Hid _ := ht
          obtain ⟨o2, c3, c4⟩ := (H'.out.below X2.out.bel).base.evs s l k t L3.out ht
          have c5 := (H'.out.below X2.out.bel).base.com s l k t L3.out ht
          have ho : o = some ⟨R.ses s, 0, none⟩ := C2.out (by intro h; rw [h] at hlt2; simp at hlt2)
          subst ho
          have C4 : Hid _ := c4
          have htl := O'.out.small3 l (List.mem_of_getElem? L3.out) t (List.mem_of_getElem? ht)
          clear c4 ht
          cases hcm : t.com with
          | false =>
            rw [hcm] at c5
            clear hcm
            go_wp2_with fail
            exact ⟨⟨k + 1, by omega, by go_num, X2.out.keep (Upd.alloc [] _ _) (by simp)⟩, by simp [intOf] <;> omega⟩
          | true =>
            rw [hcm] at c5
            have CM : Hid (Cm hs s k) := ⟨l, t, L3.out, T3.out, hcm⟩
            clear hcm
            go_wp2_with fail
            clear c3 c5
            go_loopw [45] (fun t45 wr => ∃ (e : Nat), e ≤ t.evs.length ∧ t45 = .int .i64 e ∧ M0 w wr R.top hs.length cap) (fun u _ => t.evs.length - (intOf u).toNat)
            case atStart => exact ⟨0, by omega, rfl, X2.out.keep (Upd.alloc [] _ _) (by simp)⟩
            case round => as_aux_lemma =>
              obtain ⟨e, he1, rfl, h2⟩ := hrel
              have X3 : Hid _ := h2
              clear h2
              by_cases hlt3 : e < t.evs.length
              · obtain ⟨v, hv⟩ : ∃ v, t.evs[e]? = some v := ⟨_, List.getElem?_eq_getElem hlt3⟩
                have ho2 : o2 = some ⟨R.evs s k, 0, none⟩ := C4.out (by intro h; rw [h] at hlt3; simp at hlt3)
                subst ho2
                have HW := H'.out.below X3.out.bel
                have a0 := HW.ev s l k t e v 0 _ L3.out T3.out hv rfl
                have a1 := HW.ev s l k t e v 1 _ L3.out T3.out hv rfl
                have a2 := HW.ev s l k t e v 2 _ L3.out T3.out hv rfl
                have a3 := HW.ev s l k t e v 3 _ L3.out T3.out hv rfl
                simp only [Nat.add_zero] at a0
                have hat : At hs s k e v := ⟨l, t, L3.out, T3.out, hv⟩
                have hkd := O'.out.kind _ _ _ _ hat
                have hz4 := X3.out.size
                clear HW hv
                rcases hkd with hk | hk
                · rw [hk] at a0
                  cases hi : v.i with
                  | true =>
                    rw [hi] at a3
                    clear hi hat hk
                    go_wp2_with fail
                    exact ⟨⟨e + 1, by omega, by go_num, X3.out.keep (Upd.alloc [] _ _) (by simp)⟩, by simp [intOf] <;> omega⟩
                  | false =>
                    rw [hi] at a3
                    obtain ⟨q, g1, g2, g3, g4⟩ := RO.out.finds O'.out WW.out hat CM.out hk hi
                    obtain ⟨l9, t9, y1, y2, y3⟩ := g2
                    have FQ : Hid (F v.v = some q) := g1
                    have hqs : q.s < hs.length := (List.getElem?_eq_some_iff.mp y1).1
                    have hqk : q.k < l9.length := (List.getElem?_eq_some_iff.mp y2).1
                    have hq9 : q.k < 1000 := by have := O'.out.small2 l9 (List.mem_of_getElem? y1); omega
                    have Y1 : Hid _ := y1
                    have Y2 : Hid _ := y2
                    have Y3 : Hid _ := y3
                    clear hi hat hk g1 g3 g4 y1 y2 y3
                    have X4 : Hid (∀ A, M0 w (wr.alloc A) R.top hs.length cap) := fun A => X3.out.keep (Upd.alloc [] _ _) (by simp)
                    go_upto_region 13 with (at_lookup; refine wpList_look1 rfl (.tmp 57) (.tmp 59) 74 rfl Ybaz.underlying74 key35 b _ (MF.out.below (X4.out _).bel hbw) v.v zero114 rfl rfl (.agg #[.int .i64 q.s, .int .i64 q.k, .int .i64 q.e, .int .i64 q.n]) (by simp only [FQ.out]; rfl) ?_)
                    clear a0 a1 a2 a3
                    obtain ⟨Wn, hWn⟩ : ∃ z : World, z = (wr.alloc (.cells #[.int .u8 0, .int .u64 v.x, .int .u64 v.v, .bool false] 37)).alloc (.cells #[.int .i64 q.s, .int .i64 q.k, .int .i64 q.e] 56) := ⟨_, rfl⟩
                    rw [← hWn]
                    have XN : M0 w Wn R.top hs.length cap := by rw [hWn]; exact (X4.out _).keep (Upd.alloc [] _ _) (by simp)
                    have k1 : Blk Wn (wr.heap.size + 1) 56 #[.int .i64 q.s, .int .i64 q.k, .int .i64 q.e] := by
                      have := Blk.new (wr.alloc (.cells #[.int .u8 0, .int .u64 v.x, .int .u64 v.v, .bool false] 37)) #[.int .i64 q.s, .int .i64 q.k, .int .i64 q.e] 56
                      rw [← hWn] at this
                      simpa using this
                    have m0 : Wn.cell? ⟨wr.heap.size + 1, 0, none⟩ = some (.int .i64 q.s) := k1.cell 0
                    have m1 : Wn.cell? ⟨wr.heap.size + 1, 1, none⟩ = some (.int .i64 q.k) := k1.cell 1
                    have bx := XN.box
                    have HN := H'.out.below XN.bel
                    obtain ⟨o9, d1, d2⟩ := HN.base.ses q.s l9 Y1.out
                    have ho9 : o9 = some ⟨R.ses q.s, 0, none⟩ := d2 (by intro h; rw [h] at hqk; simp at hqk)
                    subst ho9
                    have d3 := HN.base.com q.s l9 q.k t9 Y1.out Y2.out
                    rw [Y3.out] at d3
                    have NW : Hid _ := XN
                    clear hWn k1 XN HN d2
                    go_big_quiet (fail)
                    go_wp2_with fail
                    exact ⟨⟨e + 1, by omega, by go_num, NW.out.keep (Upd.drewN [] _ _) (by simp)⟩, by simp [intOf] <;> omega⟩
                · rw [hk] at a0
                  clear hat hk
                  go_wp2_with fail
                  exact ⟨⟨e + 1, by omega, by go_num, X3.out.keep (Upd.alloc [] _ _) (by simp)⟩, by simp [intOf] <;> omega⟩
              · have he2 : e = t.evs.length := by omega
                subst he2
                go_wp2_with fail
                exact ⟨⟨k + 1, by omega, by go_num, X3.out⟩, by simp [intOf] <;> omega⟩
        · have hk2 : k = l.length := by omega
          subst hk2
          go_wp2_with fail
          exact ⟨⟨s + 1, by omega, by go_num, X2.out⟩, by simp [intOf] <;> omega⟩
    · have hs2 : s = hs.length := by omega
      have NB : Hid (s = hs.length) := hs2
      obtain ⟨wq, hwq⟩ : ∃ z : World, z = wr := ⟨_, rfl⟩
      subst hwq
      have J0 : Hid (MM w (wq.alloc (.map #[] 0)) R.top hs.length cap wq.heap.size (fun _ => none)) := ⟨X1.out.keep (Upd.alloc [] _ _) (by simp), (MapAt.new wq (ik .u64)).congr (fun _ => rfl), X1.out.size⟩
      obtain ⟨mb, hmb⟩ : ∃ z, z = wq.heap.size := ⟨_, rfl⟩
      have bx := J0.out.m0.box
      rw [← hmb] at J0
      clear hs2
      go_wp2_with fail
      rw [← hmb]
      clear bx hmm
      obtain ⟨W4, hW4⟩ : ∃ z : World, z = wq.alloc (.map #[] 0) := ⟨_, rfl⟩
      rw [← hW4] at J0 ⊢
      clear hW4 hmb
      go_loopw [88] (fun t88 wr => ∃ (s : Nat) (T : Nat → Option Tc), s ≤ hs.length ∧ t88 = .int .i64 s ∧ MM w wr R.top hs.length cap mb T) (fun u _ => hs.length - (intOf u).toNat)
      case atStart => exact ⟨0, _, by omega, rfl, J0.out⟩
      case round =>
        obtain ⟨s, T, hs1', rfl, h2⟩ := hrel
        have X4 : Hid _ := h2
        clear h2
        by_cases hlt4 : s < hs.length
        · obtain ⟨l, hl3⟩ : ∃ l, hs[s]? = some l := ⟨_, List.getElem?_eq_getElem hlt4⟩
          have L3 : Hid _ := hl3
          obtain ⟨o, c1, c2⟩ := (H'.out.below X4.out.bel).base.ses s l hl3
          have C2 : Hid _ := c2
          have hll := O'.out.small2 l (List.mem_of_getElem? hl3)
          clear c2 hl3
          obtain ⟨wq, hwq⟩ : ∃ z : World, z = wr := ⟨_, rfl⟩
          subst hwq
          have Y4 : Hid (MM w (wq.alloc (.cells #[.int .i64 s] 3)) R.top hs.length cap mb T) := X4.out.keep (Upd.alloc [] _ _) (by simp)
          have c13 : (wq.alloc (.cells #[.int .i64 s] 3)).cell? ⟨wq.heap.size, 0, none⟩ = some (.int .i64 s) := (Blk.new wq #[.int .i64 s] 3).cell 0
          have hz4 : mb < wq.heap.size := X4.out.mT.lt
          go_wp2_with fail
          clear c1
          obtain ⟨p13, hp13⟩ : ∃ z, z = wq.heap.size := ⟨_, rfl⟩
          obtain ⟨wB, hwB⟩ : ∃ z : World, z = wq.alloc (.cells #[.int .i64 s] 3) := ⟨_, rfl⟩
          rw [← hwB] at c13 Y4
          try rw [← hwB]
          rw [← hp13] at c13 ⊢
          have hz13 : mb < p13 := by omega
          clear hwB hp13 hz4
          go_loopw [95] (fun t95 wr => ∃ (k : Nat) (T : Nat → Option Tc), k ≤ l.length ∧ t95 = .int .i64 k ∧ MM w wr R.top hs.length cap mb T ∧ Upd [mb] wB wr) (fun u _ => l.length - (intOf u).toNat)
          case atStart => exact ⟨0, _, by omega, rfl, Y4.out, Upd.refl _ _⟩
          case round =>
            obtain ⟨k, T, hk1, rfl, h2, h3⟩ := hrel
            have X5 : Hid _ := h2
            have U5 : Hid _ := h3
            clear h2 h3
            by_cases hlt5 : k < l.length
            · obtain ⟨t, ht⟩ : ∃ t, l[k]? = some t := ⟨_, List.getElem?_eq_getElem hlt5⟩
              have T3 : Hid _ := ht
              obtain ⟨o2, c3, c4⟩ := (H'.out.below X5.out.bel).base.evs s l k t L3.out ht
              have c5 := (H'.out.below X5.out.bel).base.com s l k t L3.out ht
              have ho : o = some ⟨R.ses s, 0, none⟩ := C2.out (by intro h; rw [h] at hlt5; simp at hlt5)
              subst ho
              have C4 : Hid _ := c4
              have htl := O'.out.small3 l (List.mem_of_getElem? L3.out) t (List.mem_of_getElem? ht)
              have hz5 : mb < wr.heap.size := X5.out.mT.lt
              clear c4 ht
              cases hcm : t.com with
              | false =>
                rw [hcm] at c5
                clear hcm
                go_wp2_with fail
                have UD := (Upd.alloc [] wr (.cells #[.int .i64 k] 3)).trans (Upd.alloc [] _ (.cells #[.slice o2 t.evs.length (R.ec s k), .bool false] 39)) (by simp)
                exact ⟨⟨k + 1, T, by omega, by go_num, X5.out.keep UD (by simp), U5.out.trans UD (by simp)⟩, by simp [intOf] <;> omega⟩
              | true =>
                rw [hcm] at c5
                have CM : Hid (Cm hs s k) := ⟨l, t, L3.out, T3.out, hcm⟩
                clear hcm
                obtain ⟨wq5, hwq5⟩ : ∃ z : World, z = wr := ⟨_, rfl⟩
                subst hwq5
                go_upto_region 26 with fail
                obtain ⟨wD, hwD⟩ : ∃ z : World, z = (wq5.alloc (.cells #[.int .i64 k] 3)).alloc (.cells #[.slice o2 t.evs.length (R.ec s k), .bool true] 39) := ⟨_, rfl⟩
                have UD : Upd [] wq5 wD := by rw [hwD]; exact (Upd.alloc [] _ _).trans (Upd.alloc [] _ _) (by simp)
                have d15 : wD.cell? ⟨wq5.heap.size, 0, none⟩ = some (.int .i64 k) := by
                  rw [hwD]
                  exact (Blk.keep (Blk.new wq5 #[.int .i64 k] 3) (Upd.alloc [] _ _) (by simp)).cell 0
                have d16 : wD.cell? ⟨wq5.heap.size + 1, 0, none⟩ = some (.slice o2 t.evs.length (R.ec s k)) := by
                  have := Blk.new (wq5.alloc (.cells #[.int .i64 k] 3)) #[.slice o2 t.evs.length (R.ec s k), .bool true] 39
                  simp only [World.size_alloc] at this
                  rw [← hwD] at this
                  exact this.cell 0
                have d13 := UD.cell (U5.out.cell c13 (by simp; omega)) (by simp)
                have XD : Hid _ := X5.out.keep UD (by simp)
                have UB : Hid _ := U5.out.trans UD (by simp)
                rw [← hwD]
                obtain ⟨p15, hp15⟩ : ∃ z, z = wq5.heap.size := ⟨_, rfl⟩
                rw [← hp15] at d15 d16 hz5 ⊢
                obtain ⟨p16, hp16⟩ : ∃ z, z = p15 + 1 := ⟨_, rfl⟩
                rw [← hp16] at d16 ⊢
                have hz16 : mb < p16 := by omega
                clear hwD hp15 hp16 c3 c5 UD
                go_wp2_with (refine wpList_wipe rfl (.tmp 103) 118 rfl Ybaz.underlying118 mb _ XD.out.mT rfl ?_; intro wA m2 u2; go_loud (have f16 : wA.cell? ⟨p16, 0, none⟩ = some (.slice o2 t.evs.length (R.ec s k)) := u2.cell d16 (by simp; omega)); go_loud (have f15 : wA.cell? ⟨p15, 0, none⟩ = some (.int .i64 k) := u2.cell d15 (by simp; omega)); go_loud (have f13 : wA.cell? ⟨p13, 0, none⟩ = some (.int .i64 s) := u2.cell d13 (by simp; omega)); have M2 : Hid _ := m2; have U2 : Hid _ := u2; clear m2 u2)
                have XA : Hid _ := XD.out.wipe M2.out U2.out
                have UC : Hid _ := UB.out.trans U2.out (by simp)
                clear d15 d16 d13 M2 U2
                go_loopw [107] (fun t107 wr => ∃ (e : Nat) (T : Nat → Option Tc), e ≤ t.evs.length ∧ t107 = .int .i64 e ∧ MM w wr R.top hs.length cap mb T ∧ TI hs s k e T ∧ Upd [mb] wA wr) (fun u _ => t.evs.length - (intOf u).toNat)
                case atStart => exact ⟨0, _, by omega, rfl, XA.out, TI.start hs s k, Upd.refl _ _⟩
                case round => as_aux_lemma =>
                  obtain ⟨e, T, he1, rfl, h2, h3, h4⟩ := hrel
                  have X6 : Hid _ := h2
                  have TI4 : Hid _ := h3
                  have U6 : Hid _ := h4
                  clear h2 h3 h4
                  by_cases hlt6 : e < t.evs.length
                  · obtain ⟨v, hv⟩ : ∃ v, t.evs[e]? = some v := ⟨_, List.getElem?_eq_getElem hlt6⟩
                    have ho2 : o2 = some ⟨R.evs s k, 0, none⟩ := C4.out (by intro h; rw [h] at hlt6; simp at hlt6)
                    subst ho2
                    have HW := H'.out.below X6.out.bel
                    have a0 := HW.ev s l k t e v 0 _ L3.out T3.out hv rfl
                    have a1 := HW.ev s l k t e v 1 _ L3.out T3.out hv rfl
                    have a2 := HW.ev s l k t e v 2 _ L3.out T3.out hv rfl
                    have a3 := HW.ev s l k t e v 3 _ L3.out T3.out hv rfl
                    simp only [Nat.add_zero] at a0
                    have hat : At hs s k e v := ⟨l, t, L3.out, T3.out, hv⟩
                    have hkd := O'.out.kind _ _ _ _ hat
                    have hz6 : mb < wr.heap.size := X6.out.mT.lt
                    have c13 := U6.out.cell f13 (by simp; omega)
                    have c15 := U6.out.cell f15 (by simp; omega)
                    have c16 := U6.out.cell f16 (by simp; omega)
                    have sz6 := U6.out.size
                    have b13 : p13 < wr.heap.size := World.block_lt_of_cell? _ _ c13
                    have b15 : p15 < wr.heap.size := World.block_lt_of_cell? _ _ c15
                    have b16 : p16 < wr.heap.size := World.block_lt_of_cell? _ _ c16
                    clear HW hv
                    have X7 : Hid (∀ A B, MM w ((wr.alloc A).alloc B) R.top hs.length cap mb T) := fun A B => X6.out.keep ((Upd.alloc [] _ _).trans (Upd.alloc [] _ _) (by simp)) (by simp)
                    have X8 : Hid (∀ A B C, MM w (((wr.alloc A).alloc B).alloc C) R.top hs.length cap mb T) := fun A B C => (X7.out A B).keep (Upd.alloc [] _ _) (by simp)
                    have X9 : Hid (∀ A B C D, MM w ((((wr.alloc A).alloc B).alloc C).alloc D) R.top hs.length cap mb T) := fun A B C D => (X8.out A B C).keep (Upd.alloc [] _ _) (by simp)
                    rcases hkd with hk | hk
                    · rw [hk] at a0
                      cases hi : v.i with
                      | true => as_aux_lemma =>
                        rw [hi] at a3
                        have hnw : Hid (∀ e'' x', e'' < e → At hs s k e'' x' → x'.k = 1 → x'.x ≠ v.x) := RO.out.ini s k e v hat CM.out hk hi
                        have hwr : Hid ((tcOf T v.x).wr = false) := TI4.out.unwritten hnw.out
                        have HAT : Hid (At hs s k e v) := hat
                        have HK : Hid (v.k = 0) := hk
                        have HI : Hid (v.i = true) := hi
                        clear hat hk hi
                        go_upto_region 39 with (at_lookup; refine wpList_look1 rfl (.tmp 116) (.tmp 118) 118 rfl Ybaz.underlying118 key35 mb _ (X7.out _ _).mT v.x zero120 rfl rfl (.agg #[.bool (tcOf T v.x).wr, .bool (tcOf T v.x).rd, .int .i64 (tcOf T v.x).w, .int .i64 (tcOf T v.x).f]) (tcOf_val T v.x) ?_)
                        obtain ⟨Wn, hWn⟩ : ∃ z : World, z = (((wr.alloc (.cells #[.int .u8 0, .int .u64 v.x, .int .u64 v.v, .bool true] 37)).alloc (.cells #[.int .i64 s, .int .i64 k, .int .i64 e] 56)).alloc (.cells #[.bool (tcOf T v.x).wr, .bool (tcOf T v.x).rd, .int .i64 (tcOf T v.x).w, .int .i64 (tcOf T v.x).f] 120)).alloc (.cells #[.int .i64 0, .int .i64 0, .int .i64 0, .int .i64 0] 114) := ⟨_, rfl⟩
                        rw [← hWn]
                        have UN : Upd [] wr Wn := by rw [hWn]; exact (((Upd.alloc [] _ _).trans (Upd.alloc [] _ _) (by simp)).trans (Upd.alloc [] _ _) (by simp)).trans (Upd.alloc [] _ _) (by simp)
                        have b0 : Blk Wn wr.heap.size 37 #[.int .u8 0, .int .u64 v.x, .int .u64 v.v, .bool true] := by
                          rw [hWn]
                          exact Blk.keep (Blk.keep (Blk.keep (Blk.new _ _ _) (Upd.alloc [] _ _) (by simp)) (Upd.alloc [] _ _) (by simp)) (Upd.alloc [] _ _) (by simp)
                        have b2 : Blk Wn (wr.heap.size + 2) 120 #[.bool (tcOf T v.x).wr, .bool (tcOf T v.x).rd, .int .i64 (tcOf T v.x).w, .int .i64 (tcOf T v.x).f] := by
                          rw [hWn]
                          have := Blk.new ((wr.alloc (.cells #[.int .u8 0, .int .u64 v.x, .int .u64 v.v, .bool true] 37)).alloc (.cells #[.int .i64 s, .int .i64 k, .int .i64 e] 56)) #[.bool (tcOf T v.x).wr, .bool (tcOf T v.x).rd, .int .i64 (tcOf T v.x).w, .int .i64 (tcOf T v.x).f] 120
                          simp only [World.size_alloc] at this
                          exact Blk.keep this (Upd.alloc [] _ _) (by simp)
                        have b3 : Blk Wn (wr.heap.size + 3) 114 #[.int .i64 0, .int .i64 0, .int .i64 0, .int .i64 0] := by
                          rw [hWn]
                          have := Blk.new (((wr.alloc (.cells #[.int .u8 0, .int .u64 v.x, .int .u64 v.v, .bool true] 37)).alloc (.cells #[.int .i64 s, .int .i64 k, .int .i64 e] 56)).alloc (.cells #[.bool (tcOf T v.x).wr, .bool (tcOf T v.x).rd, .int .i64 (tcOf T v.x).w, .int .i64 (tcOf T v.x).f] 120)) #[.int .i64 0, .int .i64 0, .int .i64 0, .int .i64 0] 114
                          simp only [World.size_alloc] at this
                          exact this
                        have XN' : MM w Wn R.top hs.length cap mb T := X6.out.keep UN (by simp)
                        have e1 : Wn.cell? ⟨wr.heap.size, 1, none⟩ = some (.int .u64 v.x) := b0.cell 1
                        have e2 : Wn.cell? ⟨wr.heap.size, 2, none⟩ = some (.int .u64 v.v) := b0.cell 2
                        have e3 : Wn.cell? ⟨wr.heap.size, 3, none⟩ = some (.bool true) := b0.cell 3
                        have t0 : Wn.cell? ⟨wr.heap.size + 2, 0, none⟩ = some (.bool (tcOf T v.x).wr) := b2.cell 0
                        have t1 : Wn.cell? ⟨wr.heap.size + 2, 1, none⟩ = some (.bool (tcOf T v.x).rd) := b2.cell 1
                        have t2 : Wn.cell? ⟨wr.heap.size + 2, 2, none⟩ = some (.int .i64 (tcOf T v.x).w) := b2.cell 2
                        have t3 : Wn.cell? ⟨wr.heap.size + 2, 3, none⟩ = some (.int .i64 (tcOf T v.x).f) := b2.cell 3
                        have z1 : Wn.frozen? ⟨wr.heap.size + 2, 1, none⟩ = false := Blk.free b2 1
                        have z3 : Wn.frozen? ⟨wr.heap.size + 2, 3, none⟩ = false := Blk.free b2 3
                        have x0 : Wn.cell? ⟨p13, 0, none⟩ = some (.int .i64 s) := UN.cell c13 (by simp)
                        have x1 : Wn.cell? ⟨p15, 0, none⟩ = some (.int .i64 k) := UN.cell c15 (by simp)
                        have x2 : Wn.cell? ⟨p16, 0, none⟩ = some (.slice (some ⟨R.evs s k, 0, none⟩) t.evs.length (R.ec s k)) := UN.cell c16 (by simp)
                        have HN : Hid (HistE Wn R hs) := H'.out.below XN'.bel
                        have XN : Hid _ := XN'
                        have UN2 : Upd [mb] wA Wn := U6.out.trans UN (by simp)
                        clear UN
                        have UN : Hid _ := UN2
                        clear UN2 XN' hWn b0 b2 a0 a1 a2 a3
                        clear b3
                        rw [hwr.out] at t0
                        have hat := HAT.out
                        have hk := HK.out
                        have hi := HI.out
                        cases hrd : (tcOf T v.x).rd with
                        | false =>
                          rw [hrd] at t1
                          have MK : Hid _ := TI4.out.mark hat hk
                          clear hrd
                          go_wp2_with (at_mapUpdate; refine wpList_put rfl (.tmp 226) (.tmp 228) (.tmp 229) 118 rfl Ybaz.underlying118 key35 mb _ ((XN.out.mT.keep (Upd.store _ _ _ _) (by simp; omega)).keep (Upd.store _ _ _ _) (by simp; omega)) v.x (.agg #[.bool false, .bool true, .int .i64 (tcOf T v.x).w, .int .i64 e]) rfl rfl rfl ?_; intro w2 m2 u2; have M2 : Hid _ := m2; have U2 : Hid _ := u2; clear m2 u2)
                          refine ⟨⟨e + 1, _, by omega, by go_num, ((XN.out.keep (Upd.store _ _ _ _) (by simp; omega)).keep (Upd.store _ _ _ _) (by simp; omega)).put (c := ⟨(tcOf T v.x).wr, true, (tcOf T v.x).w, e⟩) (by rw [Tc.val, hwr.out]) M2.out U2.out, MK.out, ?_⟩, by simp [intOf] <;> omega⟩
                          exact ((UN.out.trans (Upd.store _ _ _ _) (by simp; omega)).trans (Upd.store _ _ _ _) (by simp; omega)).trans U2.out (by simp)
                        | true =>
                          rw [hrd] at t1
                          have AG := RO.out.again hat CM.out hk hnw.out TI4.out hrd
                          obtain ⟨f1, y, f2, f3, f4⟩ := AG
                          obtain ⟨l8, t8, y1, y2, y3⟩ := f2
                          rw [L3.out] at y1; cases y1
                          rw [T3.out] at y2; cases y2
                          have g3 := HN.out.ev s l k t (tcOf T v.x).f y 3 _ L3.out T3.out y3 rfl
                          have g2 := HN.out.ev s l k t (tcOf T v.x).f y 2 _ L3.out T3.out y3 rfl
                          rw [f3, hi] at g3
                          rw [f4] at g2
                          have PS : Hid _ := TI4.out.pass hat hk
                          have f9 : (tcOf T v.x).f < t.evs.length := by omega
                          have f8 : (tcOf T v.x).f < 1000 := by omega
                          clear f1 f3 f4 y3 hrd
                          go_upto_region 52 with fail
                          go_big_quiet (fail)
                          go_wp2_with fail
                          exact ⟨⟨e + 1, T, by omega, by go_num, XN.out.keep (Upd.drewN [] _ _) (by simp), PS.out, UN.out.trans (Upd.drewN [] _ _) (by simp)⟩, by simp [intOf] <;> omega⟩
                      | false =>
                        rw [hi] at a3
                        obtain ⟨q, g1, g2, g3, g4⟩ := RO.out.finds O'.out WW.out hat CM.out hk hi
                        have FQ : Hid (F v.v = some q) := g1
                        have HAT : Hid (At hs s k e v) := hat
                        have HK : Hid (v.k = 0) := hk
                        have HI : Hid (v.i = false) := hi
                        have G3 : Hid (q.s = s ∧ q.k = k → q.e < e ∧ ∀ T, TI hs s k e T → (tcOf T v.x).w = q.e) := g3
                        have G4 : Hid (¬ (q.s = s ∧ q.k = k) → q.n = -1 ∧ ∀ e'' x', e'' < e → At hs s k e'' x' → x'.k = 1 → x'.x ≠ v.x) := g4
                        clear hat hk hi g1 g2 g3 g4
                        go_upto_region 39 with (first | (at_lookup; refine wpList_look1 rfl (.tmp 116) (.tmp 118) 118 rfl Ybaz.underlying118 key35 mb _ (X7.out _ _).mT v.x zero120 rfl rfl (.agg #[.bool (tcOf T v.x).wr, .bool (tcOf T v.x).rd, .int .i64 (tcOf T v.x).w, .int .i64 (tcOf T v.x).f]) (tcOf_val T v.x) ?_) | (at_lookup; refine wpList_look1 rfl (.tmp 134) (.tmp 136) 74 rfl Ybaz.underlying74 key35 b _ (MF.out.below (X9.out _ _ _ _).bel hbw) v.v zero114 rfl rfl (.agg #[.int .i64 q.s, .int .i64 q.k, .int .i64 q.e, .int .i64 q.n]) (by simp only [FQ.out]; rfl) ?_))
                        obtain ⟨Wn, hWn⟩ : ∃ z : World, z = (((wr.alloc (.cells #[.int .u8 0, .int .u64 v.x, .int .u64 v.v, .bool false] 37)).alloc (.cells #[.int .i64 s, .int .i64 k, .int .i64 e] 56)).alloc (.cells #[.bool (tcOf T v.x).wr, .bool (tcOf T v.x).rd, .int .i64 (tcOf T v.x).w, .int .i64 (tcOf T v.x).f] 120)).alloc (.cells #[.int .i64 q.s, .int .i64 q.k, .int .i64 q.e, .int .i64 q.n] 114) := ⟨_, rfl⟩
                        rw [← hWn]
                        have UN : Upd [] wr Wn := by rw [hWn]; exact (((Upd.alloc [] _ _).trans (Upd.alloc [] _ _) (by simp)).trans (Upd.alloc [] _ _) (by simp)).trans (Upd.alloc [] _ _) (by simp)
                        have b0 : Blk Wn wr.heap.size 37 #[.int .u8 0, .int .u64 v.x, .int .u64 v.v, .bool false] := by
                          rw [hWn]
                          exact Blk.keep (Blk.keep (Blk.keep (Blk.new _ _ _) (Upd.alloc [] _ _) (by simp)) (Upd.alloc [] _ _) (by simp)) (Upd.alloc [] _ _) (by simp)
                        have b2 : Blk Wn (wr.heap.size + 2) 120 #[.bool (tcOf T v.x).wr, .bool (tcOf T v.x).rd, .int .i64 (tcOf T v.x).w, .int .i64 (tcOf T v.x).f] := by
                          rw [hWn]
                          have := Blk.new ((wr.alloc (.cells #[.int .u8 0, .int .u64 v.x, .int .u64 v.v, .bool false] 37)).alloc (.cells #[.int .i64 s, .int .i64 k, .int .i64 e] 56)) #[.bool (tcOf T v.x).wr, .bool (tcOf T v.x).rd, .int .i64 (tcOf T v.x).w, .int .i64 (tcOf T v.x).f] 120
                          simp only [World.size_alloc] at this
                          exact Blk.keep this (Upd.alloc [] _ _) (by simp)
                        have b3 : Blk Wn (wr.heap.size + 3) 114 #[.int .i64 q.s, .int .i64 q.k, .int .i64 q.e, .int .i64 q.n] := by
                          rw [hWn]
                          have := Blk.new (((wr.alloc (.cells #[.int .u8 0, .int .u64 v.x, .int .u64 v.v, .bool false] 37)).alloc (.cells #[.int .i64 s, .int .i64 k, .int .i64 e] 56)).alloc (.cells #[.bool (tcOf T v.x).wr, .bool (tcOf T v.x).rd, .int .i64 (tcOf T v.x).w, .int .i64 (tcOf T v.x).f] 120)) #[.int .i64 q.s, .int .i64 q.k, .int .i64 q.e, .int .i64 q.n] 114
                          simp only [World.size_alloc] at this
                          exact this
                        have XN' : MM w Wn R.top hs.length cap mb T := X6.out.keep UN (by simp)
                        have e1 : Wn.cell? ⟨wr.heap.size, 1, none⟩ = some (.int .u64 v.x) := b0.cell 1
                        have e2 : Wn.cell? ⟨wr.heap.size, 2, none⟩ = some (.int .u64 v.v) := b0.cell 2
                        have e3 : Wn.cell? ⟨wr.heap.size, 3, none⟩ = some (.bool false) := b0.cell 3
                        have t0 : Wn.cell? ⟨wr.heap.size + 2, 0, none⟩ = some (.bool (tcOf T v.x).wr) := b2.cell 0
                        have t1 : Wn.cell? ⟨wr.heap.size + 2, 1, none⟩ = some (.bool (tcOf T v.x).rd) := b2.cell 1
                        have t2 : Wn.cell? ⟨wr.heap.size + 2, 2, none⟩ = some (.int .i64 (tcOf T v.x).w) := b2.cell 2
                        have t3 : Wn.cell? ⟨wr.heap.size + 2, 3, none⟩ = some (.int .i64 (tcOf T v.x).f) := b2.cell 3
                        have z1 : Wn.frozen? ⟨wr.heap.size + 2, 1, none⟩ = false := Blk.free b2 1
                        have z3 : Wn.frozen? ⟨wr.heap.size + 2, 3, none⟩ = false := Blk.free b2 3
                        have x0 : Wn.cell? ⟨p13, 0, none⟩ = some (.int .i64 s) := UN.cell c13 (by simp)
                        have x1 : Wn.cell? ⟨p15, 0, none⟩ = some (.int .i64 k) := UN.cell c15 (by simp)
                        have x2 : Wn.cell? ⟨p16, 0, none⟩ = some (.slice (some ⟨R.evs s k, 0, none⟩) t.evs.length (R.ec s k)) := UN.cell c16 (by simp)
                        have HN : Hid (HistE Wn R hs) := H'.out.below XN'.bel
                        have XN : Hid _ := XN'
                        have UN2 : Upd [mb] wA Wn := U6.out.trans UN (by simp)
                        clear UN
                        have UN : Hid _ := UN2
                        clear UN2 XN' hWn b0 b2 a0 a1 a2 a3
                        have q0 : Wn.cell? ⟨wr.heap.size + 3, 0, none⟩ = some (.int .i64 q.s) := b3.cell 0
                        have q1 : Wn.cell? ⟨wr.heap.size + 3, 1, none⟩ = some (.int .i64 q.k) := b3.cell 1
                        have q2 : Wn.cell? ⟨wr.heap.size + 3, 2, none⟩ = some (.int .i64 q.e) := b3.cell 2
                        have q3 : Wn.cell? ⟨wr.heap.size + 3, 3, none⟩ = some (.int .i64 q.n) := b3.cell 3
                        clear b3
                        by_cases own : q.s = s ∧ q.k = k
                        · as_aux_lemma =>
                          obtain ⟨r1, r2⟩ := G3.out own
                          rw [r2 T TI4.out] at t2
                          rw [own.1] at q0
                          rw [own.2] at q1
                          have PS : Hid _ := TI4.out.pass HAT.out HK.out
                          clear own r2
                          go_wp2_with fail
                          exact ⟨⟨e + 1, T, by omega, by go_num, XN.out, PS.out, UN.out⟩, by simp [intOf] <;> omega⟩
                        · as_aux_lemma =>
                          obtain ⟨r1, r2⟩ := G4.out own
                          rw [r1] at q3
                          have hnw : Hid (∀ e'' x', e'' < e → At hs s k e'' x' → x'.k = 1 → x'.x ≠ v.x) := r2
                          have hwr : Hid ((tcOf T v.x).wr = false) := TI4.out.unwritten hnw.out
                          rw [hwr.out] at t0
                          have hat := HAT.out
                          have hk := HK.out
                          have hi := HI.out
                          clear r1 r2
                          by_cases own1 : q.s = s
                          · have own2 : ¬ q.k = k := fun z => own ⟨own1, z⟩
                            rw [own1] at q0
                            clear own own1
                            as_aux_lemma =>
                              cases hrd : (tcOf T v.x).rd with
                              | false =>
                                rw [hrd] at t1
                                have MK : Hid _ := TI4.out.mark hat hk
                                clear hrd
                                go_wp2_with (at_mapUpdate; refine wpList_put rfl (.tmp 226) (.tmp 228) (.tmp 229) 118 rfl Ybaz.underlying118 key35 mb _ ((XN.out.mT.keep (Upd.store _ _ _ _) (by simp; omega)).keep (Upd.store _ _ _ _) (by simp; omega)) v.x (.agg #[.bool false, .bool true, .int .i64 (tcOf T v.x).w, .int .i64 e]) rfl rfl rfl ?_; intro w2 m2 u2; have M2 : Hid _ := m2; have U2 : Hid _ := u2; clear m2 u2)
                                refine ⟨⟨e + 1, _, by omega, by go_num, ((XN.out.keep (Upd.store _ _ _ _) (by simp; omega)).keep (Upd.store _ _ _ _) (by simp; omega)).put (c := ⟨(tcOf T v.x).wr, true, (tcOf T v.x).w, e⟩) (by rw [Tc.val, hwr.out]) M2.out U2.out, MK.out, ?_⟩, by simp [intOf] <;> omega⟩
                                exact ((UN.out.trans (Upd.store _ _ _ _) (by simp; omega)).trans (Upd.store _ _ _ _) (by simp; omega)).trans U2.out (by simp)
                              | true =>
                                rw [hrd] at t1
                                have AG := RO.out.again hat CM.out hk hnw.out TI4.out hrd
                                obtain ⟨f1, y, f2, f3, f4⟩ := AG
                                obtain ⟨l8, t8, y1, y2, y3⟩ := f2
                                rw [L3.out] at y1; cases y1
                                rw [T3.out] at y2; cases y2
                                have g3 := HN.out.ev s l k t (tcOf T v.x).f y 3 _ L3.out T3.out y3 rfl
                                have g2 := HN.out.ev s l k t (tcOf T v.x).f y 2 _ L3.out T3.out y3 rfl
                                rw [f3, hi] at g3
                                rw [f4] at g2
                                have PS : Hid _ := TI4.out.pass hat hk
                                have f9 : (tcOf T v.x).f < t.evs.length := by omega
                                have f8 : (tcOf T v.x).f < 1000 := by omega
                                clear f1 f3 f4 y3 hrd
                                go_upto_region 52 with fail
                                go_big_quiet (fail)
                                go_wp2_with fail
                                exact ⟨⟨e + 1, T, by omega, by go_num, XN.out.keep (Upd.drewN [] _ _) (by simp), PS.out, UN.out.trans (Upd.drewN [] _ _) (by simp)⟩, by simp [intOf] <;> omega⟩
                          · clear own
                            as_aux_lemma =>
                              cases hrd : (tcOf T v.x).rd with
                              | false =>
                                rw [hrd] at t1
                                have MK : Hid _ := TI4.out.mark hat hk
                                clear hrd
                                go_wp2_with (at_mapUpdate; refine wpList_put rfl (.tmp 226) (.tmp 228) (.tmp 229) 118 rfl Ybaz.underlying118 key35 mb _ ((XN.out.mT.keep (Upd.store _ _ _ _) (by simp; omega)).keep (Upd.store _ _ _ _) (by simp; omega)) v.x (.agg #[.bool false, .bool true, .int .i64 (tcOf T v.x).w, .int .i64 e]) rfl rfl rfl ?_; intro w2 m2 u2; have M2 : Hid _ := m2; have U2 : Hid _ := u2; clear m2 u2)
                                refine ⟨⟨e + 1, _, by omega, by go_num, ((XN.out.keep (Upd.store _ _ _ _) (by simp; omega)).keep (Upd.store _ _ _ _) (by simp; omega)).put (c := ⟨(tcOf T v.x).wr, true, (tcOf T v.x).w, e⟩) (by rw [Tc.val, hwr.out]) M2.out U2.out, MK.out, ?_⟩, by simp [intOf] <;> omega⟩
                                exact ((UN.out.trans (Upd.store _ _ _ _) (by simp; omega)).trans (Upd.store _ _ _ _) (by simp; omega)).trans U2.out (by simp)
                              | true =>
                                rw [hrd] at t1
                                have AG := RO.out.again hat CM.out hk hnw.out TI4.out hrd
                                obtain ⟨f1, y, f2, f3, f4⟩ := AG
                                obtain ⟨l8, t8, y1, y2, y3⟩ := f2
                                rw [L3.out] at y1; cases y1
                                rw [T3.out] at y2; cases y2
                                have g3 := HN.out.ev s l k t (tcOf T v.x).f y 3 _ L3.out T3.out y3 rfl
                                have g2 := HN.out.ev s l k t (tcOf T v.x).f y 2 _ L3.out T3.out y3 rfl
                                rw [f3, hi] at g3
                                rw [f4] at g2
                                have PS : Hid _ := TI4.out.pass hat hk
                                have f9 : (tcOf T v.x).f < t.evs.length := by omega
                                have f8 : (tcOf T v.x).f < 1000 := by omega
                                clear f1 f3 f4 y3 hrd
                                go_upto_region 52 with fail
                                go_big_quiet (fail)
                                go_wp2_with fail
                                exact ⟨⟨e + 1, T, by omega, by go_num, XN.out.keep (Upd.drewN [] _ _) (by simp), PS.out, UN.out.trans (Upd.drewN [] _ _) (by simp)⟩, by simp [intOf] <;> omega⟩
                    · as_aux_lemma =>
                      rw [hk] at a0
                      have TW : Hid _ := TI4.out.write hat hk
                      have hvi := O'.out.wi _ _ _ _ hat hk
                      rw [hvi] at a3
                      clear hat hk hvi
                      go_wp2_with (first
                        | (at_lookup; refine wpList_look1 rfl (.tmp 116) (.tmp 118) 118 rfl Ybaz.underlying118 key35 mb _ (X7.out _ _).mT v.x zero120 rfl rfl (.agg #[.bool (tcOf T v.x).wr, .bool (tcOf T v.x).rd, .int .i64 (tcOf T v.x).w, .int .i64 (tcOf T v.x).f]) (tcOf_val T v.x) ?_)
                        | (at_mapUpdate; refine wpList_put rfl (.tmp 126) (.tmp 128) (.tmp 129) 118 rfl Ybaz.underlying118 key35 mb _ (X8.out _ _ _).mT v.x (.agg #[.bool true, .bool (tcOf T v.x).rd, .int .i64 e, .int .i64 (tcOf T v.x).f]) rfl rfl rfl ?_; intro w2 m2 u2; have M2 : Hid _ := m2; have U2 : Hid _ := u2; clear m2 u2))
                      refine ⟨⟨e + 1, _, by omega, by go_num, (X8.out _ _ _).put (c := ⟨true, (tcOf T v.x).rd, e, (tcOf T v.x).f⟩) rfl M2.out U2.out, TW.out, ?_⟩, by simp [intOf] <;> omega⟩
                      exact (U6.out.trans (((Upd.alloc [] _ _).trans (Upd.alloc [] _ _) (by simp)).trans (Upd.alloc [] _ _) (by simp)) (by simp)).trans U2.out (by simp)
                  · have he2 : e = t.evs.length := by omega
                    subst he2
                    go_wp2_with fail
                    exact ⟨⟨k + 1, T, by omega, by go_num, X6.out, UC.out.trans U6.out (by simp)⟩, by simp [intOf] <;> omega⟩
            · have hk2 : k = l.length := by omega
              subst hk2
              go_wp2_with fail
              exact ⟨⟨s + 1, T, by omega, by go_num, X5.out⟩, by simp [intOf] <;> omega⟩
        · have hs2 : s = hs.length := by omega
          subst hs2
          go_wp2_with fail
          go_ret
          exact ⟨rfl, X4.out.bel⟩
end Go.Proofs.YbulkctquGreatFmt

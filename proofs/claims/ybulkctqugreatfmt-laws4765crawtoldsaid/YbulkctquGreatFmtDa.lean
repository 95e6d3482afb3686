/-
  directArc, walked.
-/
import Derived.Test.YbulkctquGreatFmtMis
import Derived.Test.YbulkctquGreatFmtFw
import Derived.Test.YbulkctquGreatFmtSeD
import Derived.Deep.DeepCutAuto
namespace Go.Proofs.YbulkctquGreatFmt
open Go.ChangeShapes Go.WideShapes Go.ChangeAt Go.RowKit Go.Ord
set_option linter.unusedVariables false

attribute [-go_sem] Go.Instr.build
theorem bd56 (a b c : Int) (w : World) : (Instr.build 56 #[(0, .int .i64 a), (1, .int .i64 b), (2, .int .i64 c)]).run Ybaz.prog w = .ok (.agg #[.int .i64 a, .int .i64 b, .int .i64 c]) w := by kernel_rfl
theorem bd102 (k a b c a' b' c' : Int) (w : World) : (Instr.build 102 #[(0, .int .u8 k), (1, .agg #[.int .i64 a, .int .i64 b, .int .i64 c]), (2, .agg #[.int .i64 a', .int .i64 b', .int .i64 c'])]).run Ybaz.prog w = .ok (.agg #[.int .u8 k, .int .i64 a, .int .i64 b, .int .i64 c, .int .i64 a', .int .i64 b', .int .i64 c', .pointer none]) w := by kernel_rfl
theorem bd102z (w : World) : (Instr.build 102 #[]).run Ybaz.prog w = .ok (.agg #[.int .u8 0, .int .i64 0, .int .i64 0, .int .i64 0, .int .i64 0, .int .i64 0, .int .i64 0, .pointer none]) w := by kernel_rfl
theorem hi102 : (Ybaz.prog.info? 102).map (·.size) = some 8 := by kernel_rfl
/-- Transaction p is forced before q directly. -/
def Dir (hs : List (List Tx)) (F : Nat → Option Wr) (p q : Nat × Nat) : Prop :=
  (p.1 = q.1 ∧ p.2 < q.2) ∨ ∃ e x r, At hs q.1 q.2 e x ∧ x.k = 0 ∧ x.i = false ∧ F x.v = some r ∧ r.s = p.1 ∧ r.k = p.2
def arcV (k a b e a' b' e' : Int) (p : Option Addr) : Value := .agg #[.int .u8 k, .int .i64 a, .int .i64 b, .int .i64 e, .int .i64 a', .int .i64 b', .int .i64 e', .pointer p]
def DaPost (w : World) (hs : List (List Tx)) (F : Nat → Option Wr) (p q : Nat × Nat) : Ending → World → Prop := fun e w' =>
  ∃ (k a b c a' b' c' : Int) (ok : Bool), e = .returned (.tuple #[.agg #[.int .u8 k, .int .i64 a, .int .i64 b, .int .i64 c, .int .i64 a', .int .i64 b', .int .i64 c', .pointer none], .bool ok]) ∧ (Dir hs F p q → ok = true) ∧ Below w.heap.size w w'
theorem results42 (tmps : Array Value) (w : World) (g : Nat) (cs : Array Value) (v9 : Value) (hp : tmps.getD 8 undef = .pointer (some ⟨g, 0, none⟩)) (h3 : tmps.getD 9 undef = v9) (hg : w.heap[g]? = some (.cells cs 102 (0, 0))) (hi : (Ybaz.prog.info? 102).map (·.size) = some cs.size) :
    (results Ybaz.f42 tmps).run Ybaz.prog w = .ok (.tuple #[.agg cs, v9]) w := by
  have hp' : tmps[8]?.getD undef = .pointer (some ⟨g, 0, none⟩) := by simpa using hp
  have h3' : tmps[9]?.getD undef = v9 := by simpa using h3
  simp [results, hp', h3', asAddr, run_loadVar_row w g 102 102 cs (0, 0) _ hg Ybaz.underlying102 rfl hi]
def put8 (w : World) (b : Nat) (v0 v1 v2 v3 v4 v5 v6 v7 : Value) : World := (((((((w.setCell ⟨b, 0, none⟩ v0).setCell ⟨b, 1, none⟩ v1).setCell ⟨b, 2, none⟩ v2).setCell ⟨b, 3, none⟩ v3).setCell ⟨b, 4, none⟩ v4).setCell ⟨b, 5, none⟩ v5).setCell ⟨b, 6, none⟩ v6).setCell ⟨b, 7, none⟩ v7
theorem put8_blk {w : World} {b : Nat} {t : TypeId} {c0 c1 c2 c3 c4 c5 c6 c7 : Value} (h : Blk w b t #[c0, c1, c2, c3, c4, c5, c6, c7]) (v0 v1 v2 v3 v4 v5 v6 v7 : Value) : Blk (put8 w b v0 v1 v2 v3 v4 v5 v6 v7) b t #[v0, v1, v2, v3, v4, v5, v6, v7] ∧ Upd [b] w (put8 w b v0 v1 v2 v3 v4 v5 v6 v7) := by
  constructor
  · have := Blk.store (Blk.store (Blk.store (Blk.store (Blk.store (Blk.store (Blk.store (Blk.store h 0 v0) 1 v1) 2 v2) 3 v3) 4 v4) 5 v5) 6 v6) 7 v7
    simpa [put8] using this
  · exact (((((((Upd.store _ _ _ _).trans (Upd.store _ _ _ _) (fun k hk => .inl hk)).trans (Upd.store _ _ _ _) (fun k hk => .inl hk)).trans (Upd.store _ _ _ _) (fun k hk => .inl hk)).trans (Upd.store _ _ _ _) (fun k hk => .inl hk)).trans (Upd.store _ _ _ _) (fun k hk => .inl hk)).trans (Upd.store _ _ _ _) (fun k hk => .inl hk)).trans (Upd.store _ _ _ _) (fun k hk => .inl hk)
theorem updRow (w : World) (g : Nat) (cs : Array Value) : Upd [g] w (w.setRow g cs) := ⟨rfl, rfl, rfl, by simp, fun k _ hk => setRow_other w g k _ (by simpa using hk)⟩
set_option maxHeartbeats 16000000 in
set_option maxRecDepth 100000 in
theorem direct42 (w : World) (R : HR) (hs : List (List Tx)) (H : HistE w R hs) (O : HOk hs) (cap bm : Nat) (F : Nat → Option Wr) (hF : MapAt w (ik .u64) bm (fun v => (F v).map Wr.val)) (W : WF hs F) (p q : Nat × Nat) (hp1 : p.1 < 1000) (hp2 : p.2 < 1000) (l : List Tx) (t : Tx) (h1 : hs[q.1]? = some l) (h2 : l[q.2]? = some t) :
    Calls Ybaz.prog 42 #[.agg #[.slice (some ⟨R.top, 0, none⟩) hs.length cap], .map (some bm), .agg #[.int .i64 p.1, .int .i64 p.2], .agg #[.int .i64 q.1, .int .i64 q.2]] w (Thru (DaPost w hs F p q)) := by
  have H' : Hid _ := H
  have O' : Hid _ := O
  have WW : Hid _ := W
  have MF : Hid _ := hF
  have hbw : bm < w.heap.size := hF.lt
  have hq1 : q.1 < hs.length := (List.getElem?_eq_some_iff.mp h1).1
  have hq2 : q.2 < l.length := (List.getElem?_eq_some_iff.mp h2).1
  have hl1 := O.small
  have hl2 := O.small2 l (List.mem_of_getElem? h1)
  have hl3 := O.small3 l (List.mem_of_getElem? h1) t (List.mem_of_getElem? h2)
  have L3 : Hid (hs[q.1]? = some l) := h1
  have T3 : Hid (l[q.2]? = some t) := h2
  obtain ⟨o1, c1, d1⟩ := H.base.ses q.1 l h1
  obtain rfl := d1 (by intro e; rw [e] at hq2; simp at hq2)
  obtain ⟨o2, c2, d2⟩ := H.base.evs q.1 l q.2 t h1 h2
  have D2 : Hid (t.evs ≠ [] → o2 = some ⟨R.evs q.1 q.2, 0, none⟩) := d2
  have hfl := field114_0
  have hb56 := bd56
  have hb102 := bd102
  have hb102z := bd102z
  obtain ⟨b0, hb0⟩ : ∃ b, b = w.heap.size := ⟨_, rfl⟩
  obtain ⟨W4, hW4⟩ : ∃ z : World, z = (((w.alloc (.cells #[.slice (some ⟨R.top, 0, none⟩) hs.length cap] 29)).alloc (.cells #[.int .i64 p.1, .int .i64 p.2] 105)).alloc (.cells #[.int .i64 q.1, .int .i64 q.2] 105)).alloc (.cells #[.int .u8 0, .int .i64 0, .int .i64 0, .int .i64 0, .int .i64 0, .int .i64 0, .int .i64 0, .pointer none] 102) := ⟨_, rfl⟩
  have ST : Hid (Blk W4 b0 29 #[.slice (some ⟨R.top, 0, none⟩) hs.length cap] ∧ Blk W4 (b0 + 1) 105 #[.int .i64 p.1, .int .i64 p.2] ∧ Blk W4 (b0 + 2) 105 #[.int .i64 q.1, .int .i64 q.2] ∧ Blk W4 (b0 + 3) 102 #[.int .u8 0, .int .i64 0, .int .i64 0, .int .i64 0, .int .i64 0, .int .i64 0, .int .i64 0, .pointer none] ∧ Upd [] w W4) := by
    obtain ⟨x1, e1⟩ : ∃ z : World, z = w.alloc (.cells #[.slice (some ⟨R.top, 0, none⟩) hs.length cap] 29) := ⟨_, rfl⟩
    obtain ⟨x2, e2⟩ : ∃ z : World, z = x1.alloc (.cells #[.int .i64 p.1, .int .i64 p.2] 105) := ⟨_, rfl⟩
    obtain ⟨x3, e3⟩ : ∃ z : World, z = x2.alloc (.cells #[.int .i64 q.1, .int .i64 q.2] 105) := ⟨_, rfl⟩
    rw [← e1, ← e2, ← e3] at hW4
    have z1 : x1.heap.size = b0 + 1 := by rw [e1, hb0]; simp
    have z2 : x2.heap.size = b0 + 2 := by rw [e2]; simp [z1]
    have z3 : x3.heap.size = b0 + 3 := by rw [e3]; simp [z2]
    have u1 : Upd [] w x1 := by rw [e1]; exact Upd.alloc _ _ _
    have u2 : Upd [] x1 x2 := by rw [e2]; exact Upd.alloc _ _ _
    have u3 : Upd [] x2 x3 := by rw [e3]; exact Upd.alloc _ _ _
    have u4 : Upd [] x3 W4 := by rw [hW4]; exact Upd.alloc _ _ _
    have k0 : Blk x1 b0 29 #[.slice (some ⟨R.top, 0, none⟩) hs.length cap] := by rw [e1, hb0]; exact Blk.new _ _ _
    have k1 : Blk x2 (b0 + 1) 105 #[.int .i64 p.1, .int .i64 p.2] := by rw [e2, ← z1]; exact Blk.new _ _ _
    have k2 : Blk x3 (b0 + 2) 105 #[.int .i64 q.1, .int .i64 q.2] := by rw [e3, ← z2]; exact Blk.new _ _ _
    have k3 : Blk W4 (b0 + 3) 102 #[.int .u8 0, .int .i64 0, .int .i64 0, .int .i64 0, .int .i64 0, .int .i64 0, .int .i64 0, .pointer none] := by rw [hW4, ← z3]; exact Blk.new _ _ _
    exact ⟨((Blk.keep k0 u2 (by simp)).keep u3 (by simp)).keep u4 (by simp), (Blk.keep k1 u3 (by simp)).keep u4 (by simp), Blk.keep k2 u4 (by simp), k3, ((u1.trans u2 (by simp)).trans u3 (by simp)).trans u4 (by simp)⟩
  clear H O W hF h1 h2 d1 d2
  go_enter Ybaz.func42, Ybaz.ntmps42
  go_upto_region 1 with fail
  rw [← hW4, ← hb0]
  rw [show b0 + 1 + 1 + 1 = b0 + 3 from rfl, show b0 + 1 + 1 = b0 + 2 from rfl]
  have HB0 : Hid (b0 = w.heap.size) := hb0
  have UW : Hid (Upd [] w W4) := ST.out.2.2.2.2
  have B4 : Hid (Blk W4 (b0 + 3) 102 #[.int .u8 0, .int .i64 0, .int .i64 0, .int .i64 0, .int .i64 0, .int .i64 0, .int .i64 0, .pointer none]) := ST.out.2.2.2.1
  have g0 : W4.cell? ⟨b0, 0, none⟩ = some (.slice (some ⟨R.top, 0, none⟩) hs.length cap) := ST.out.1.cell 0
  have g1 : W4.cell? ⟨b0 + 1, 0, none⟩ = some (.int .i64 p.1) := ST.out.2.1.cell 0
  have g2 : W4.cell? ⟨b0 + 1, 1, none⟩ = some (.int .i64 p.2) := ST.out.2.1.cell 1
  have g3 : W4.cell? ⟨b0 + 2, 0, none⟩ = some (.int .i64 q.1) := ST.out.2.2.1.cell 0
  have g4 : W4.cell? ⟨b0 + 2, 1, none⟩ = some (.int .i64 q.2) := ST.out.2.2.1.cell 1
  have sz4 : b0 + 4 ≤ W4.heap.size := by have := ST.out.2.2.2.1.lt; omega
  clear hW4 hb0
  by_cases hd : p.1 = q.1 ∧ p.2 < q.2
  · as_aux_lemma =>
    have e1 : ((p.1 : Nat) : Int) = (q.1 : Int) := by omega
    have e2 : ((p.2 : Nat) : Int) < (q.2 : Int) := by omega
    go_wp2_with (refine wpList_store_row rfl 102 (.tmp 8) (.tmp 35) rfl (b0 + 3) _ rfl rfl 102 _ B4.out hi102 rfl (by simp [Value.oneCell']) ?_)
    refine bodyPost_ret (results42 _ _ (b0 + 3) _ (.bool true) rfl rfl (setRow_heap W4 (b0 + 3) _ _ 102 (0, 0) B4.out) hi102) rfl ?_
    refine ⟨_, _, _, _, _, _, _, true, rfl, fun _ => rfl, ?_⟩
    refine Upd.below (S := []) (UW.out.trans (updRow W4 (b0 + 3) _) (fun k hk => ?_)) (Nat.le_refl _) (by simp)
    have := HB0.out; simp at hk; exact .inr (by omega)
  · go_cut [24] (fun t24 wx => wx = W4 ∧ t24 = .bool false)
    case first =>
      by_cases e0 : p.1 = q.1
      · have e1 : (((p.1 : Nat) : Int) == ((q.1 : Nat) : Int)) = true := by rw [e0]; simp
        have e2 : ¬ ((p.2 : Nat) : Int) < (q.2 : Int) := by omega
        clear e0
        go_wp2_with fail
        all_goals go_meet
        exact ⟨rfl, rfl⟩
      · have e1 : ¬ ((p.1 : Nat) : Int) = (q.1 : Int) := by omega
        go_wp2_with fail
        all_goals go_meet
        exact ⟨rfl, rfl⟩
    case rest =>
      obtain ⟨rfl, rfl⟩ := hcut
      have k1 := UW.out.cell c1 (by simp)
      have k2 := UW.out.cell c2 (by simp)
      go_upto_region 3 with fail
      go_big_quiet (fail)
      obtain ⟨W5, hW5⟩ : ∃ z : World, z = wc.drewN nq := ⟨_, rfl⟩
      have U5 : Hid (Upd [] wc W5) := by rw [hW5]; exact Upd.drewN _ _ _
      rw [← hW5]
      clear hW5
      go_wp2_with fail
      go_loopw [48] (fun t48 wx => ∃ (e : Nat), e ≤ t.evs.length ∧ t48 = .int .i64 e ∧ (∀ (e' : Nat) (x : Ev), e' < e → t.evs[e']? = some x → ¬ (x.k = 0 ∧ x.i = false ∧ ∃ r, F x.v = some r ∧ r.s = p.1 ∧ r.k = p.2)) ∧ Upd [] wc wx) (fun u _ => t.evs.length - (intOf u).toNat)
      case atStart => exact ⟨0, by omega, rfl, fun e' x h => by omega, U5.out⟩
      case round =>
        obtain ⟨e, he, rfl, hn, hu⟩ := hrel
        have HN : Hid (∀ (e' : Nat) (x : Ev), e' < e → t.evs[e']? = some x → ¬ (x.k = 0 ∧ x.i = false ∧ ∃ r, F x.v = some r ∧ r.s = p.1 ∧ r.k = p.2)) := hn
        have UH : Hid (Upd [] wc wr) := hu
        by_cases hlt : e < t.evs.length
        · obtain ⟨v, hv⟩ := has_at t.evs hlt
          have ho2 := D2.out (by intro h; rw [h] at hlt; simp at hlt)
          subst ho2
          have HW := (H'.out.below (UW.out.below (Nat.le_refl _) (by simp))).keep (fun b j x hx => hu.cell hx (by simp))
          have a0 := HW.ev q.1 l q.2 t e v 0 _ L3.out T3.out hv rfl
          have a1 := HW.ev q.1 l q.2 t e v 1 _ L3.out T3.out hv rfl
          have a2 := HW.ev q.1 l q.2 t e v 2 _ L3.out T3.out hv rfl
          have a3 := HW.ev q.1 l q.2 t e v 3 _ L3.out T3.out hv rfl
          simp only [Nat.add_zero] at a0
          have hat : At hs q.1 q.2 e v := ⟨l, t, L3.out, T3.out, hv⟩
          have hkd := O'.out.kind _ _ _ _ hat
          have NX : (¬ (v.k = 0 ∧ v.i = false ∧ ∃ r, F v.v = some r ∧ r.s = p.1 ∧ r.k = p.2)) → (∀ (e' : Nat) (x : Ev), e' < e + 1 → t.evs[e']? = some x → ¬ (x.k = 0 ∧ x.i = false ∧ ∃ r, F x.v = some r ∧ r.s = p.1 ∧ r.k = p.2)) := fun hno e' x h1 h2 => by
            by_cases q1 : e' = e
            · subst q1; rw [hv] at h2; injection h2 with h2; subst h2; exact hno
            · exact hn e' x (by omega) h2
          have NXH : Hid ((¬ (v.k = 0 ∧ v.i = false ∧ ∃ r, F v.v = some r ∧ r.s = p.1 ∧ r.k = p.2)) → (∀ (e' : Nat) (x : Ev), e' < e + 1 → t.evs[e']? = some x → ¬ (x.k = 0 ∧ x.i = false ∧ ∃ r, F x.v = some r ∧ r.s = p.1 ∧ r.k = p.2))) := NX
          clear HW hv hn NX
          rcases hkd with hk | hk
          · rw [hk] at a0
            cases hi : v.i with
            | true =>
              as_aux_lemma =>
              have NO : Hid (¬ (v.k = 0 ∧ v.i = false ∧ ∃ r, F v.v = some r ∧ r.s = p.1 ∧ r.k = p.2)) := fun h => by rw [hi] at h; exact absurd h.2.1 (by simp)
              rw [hi] at a3
              clear hi hat hk hu
              go_wp2_with fail
              exact ⟨⟨e + 1, by omega, by go_num, NXH.out NO.out, UH.out.trans (Upd.alloc [] _ _) (by simp)⟩, by simp [intOf] <;> omega⟩
            | false =>
              as_aux_lemma =>
              obtain ⟨s', k', e', v', x1, x2, x3, x4⟩ := O'.out.reads _ _ _ _ hat hk hi
              obtain ⟨r, r1, r2, r3, r4⟩ := WW.out.bwd _ _ _ _ x1 x2
              rw [x3] at r1
              obtain ⟨l9, t9, y1, y2, y3⟩ := x1
              have hrs : r.s < 1000 := by have := (List.getElem?_eq_some_iff.mp y1).1; omega
              have hrk : r.k < 1000 := by have := (List.getElem?_eq_some_iff.mp y2).1; have := O'.out.small2 l9 (List.mem_of_getElem? y1); omega
              have FQ : Hid (F v.v = some r) := r1
              have DR : Hid (r.s = p.1 ∧ r.k = p.2 → Dir hs F p q) := fun h => .inr ⟨e, v, r, hat, hk, hi, r1, h.1, h.2⟩
              have NO : Hid (¬ (r.s = p.1 ∧ r.k = p.2) → ¬ (v.k = 0 ∧ v.i = false ∧ ∃ r, F v.v = some r ∧ r.s = p.1 ∧ r.k = p.2)) := fun h h2 => by
                obtain ⟨_, _, r', q1, q2, q3⟩ := h2
                rw [r1] at q1; injection q1 with q1; subst q1
                exact h ⟨q2, q3⟩
              rw [hi] at a3
              have B5 : Hid (∀ A, Below w.heap.size w (wr.alloc A)) := fun A => ((UW.out.trans UH.out (by simp)).trans (Upd.alloc [] _ _) (by simp)).below (Nat.le_refl _) (by simp)
              clear hi hat hk hu x2 x3 x4 r1 r2 r3 r4 y1 y2 y3
              go_upto_region 8 with (at_lookup; refine wpList_look1 rfl (.tmp 60) (.tmp 62) 74 rfl Ybaz.underlying74 key35 bm _ (MF.out.below (B5.out _) hbw) v.v zero114 rfl rfl (.agg #[.int .i64 r.s, .int .i64 r.k, .int .i64 r.e, .int .i64 r.n]) (by simp only [FQ.out]; rfl) ?_)
              clear a0 a1 a2 a3
              obtain ⟨bn, hbn⟩ : ∃ b, b = wr.heap.size := ⟨_, rfl⟩
              obtain ⟨Wn, hWn⟩ : ∃ z : World, z = (wr.alloc (.cells #[.int .u8 0, .int .u64 v.x, .int .u64 v.v, .bool false] 37)).alloc (.cells #[.int .i64 r.s, .int .i64 r.k, .int .i64 r.e] 56) := ⟨_, rfl⟩
              rw [← hWn, ← hbn]
              have UN : Hid (Upd [] wc Wn) := by rw [hWn]; exact (UH.out.trans (Upd.alloc [] _ _) (by simp)).trans (Upd.alloc [] _ _) (by simp)
              have kn : Blk Wn (bn + 1) 56 #[.int .i64 r.s, .int .i64 r.k, .int .i64 r.e] := by
                have := Blk.new (wr.alloc (.cells #[.int .u8 0, .int .u64 v.x, .int .u64 v.v, .bool false] 37)) #[.int .i64 r.s, .int .i64 r.k, .int .i64 r.e] 56
                rw [← hWn] at this
                rw [hbn]
                simpa using this
              have m0 : Wn.cell? ⟨bn + 1, 0, none⟩ = some (.int .i64 r.s) := kn.cell 0
              have m1 : Wn.cell? ⟨bn + 1, 1, none⟩ = some (.int .i64 r.k) := kn.cell 1
              have m2 : Wn.cell? ⟨bn + 1, 2, none⟩ = some (.int .i64 r.e) := kn.cell 2
              have n1 := UN.out.cell g1 (by simp)
              have n2 := UN.out.cell g2 (by simp)
              have n3 := UN.out.cell g3 (by simp)
              have n4 := UN.out.cell g4 (by simp)
              have BN : Hid (Blk Wn (b0 + 3) 102 #[.int .u8 0, .int .i64 0, .int .i64 0, .int .i64 0, .int .i64 0, .int .i64 0, .int .i64 0, .pointer none]) := Blk.keep B4.out UN.out (by simp)
              clear hWn hbn kn
              by_cases er : r.s = p.1
              · have e1 : ((r.s : Nat) : Int) = (p.1 : Int) := by omega
                by_cases ek : r.k = p.2
                · have e2 : ((r.k : Nat) : Int) = (p.2 : Int) := by omega
                  go_wp2_with (refine wpList_store_row rfl 102 (.tmp 8) (.tmp 84) rfl (b0 + 3) _ rfl rfl 102 _ BN.out hi102 rfl (by simp [Value.oneCell']) ?_)
                  refine bodyPost_ret (results42 _ _ (b0 + 3) _ (.bool true) rfl rfl (setRow_heap Wn (b0 + 3) _ _ 102 (0, 0) BN.out) hi102) rfl ?_
                  refine ⟨_, _, _, _, _, _, _, true, rfl, fun _ => rfl, ?_⟩
                  refine Upd.below (S := []) ((UW.out.trans UN.out (by simp)).trans (updRow Wn (b0 + 3) _) (fun k hk => ?_)) (Nat.le_refl _) (by simp)
                  have := HB0.out; simp at hk; exact .inr (by omega)
                · have e2 : ¬ ((r.k : Nat) : Int) = (p.2 : Int) := by omega
                  go_wp2_with fail
                  exact ⟨⟨e + 1, by omega, by go_num, NXH.out (NO.out (fun h => ek h.2)), UN.out⟩, by simp [intOf] <;> omega⟩
              · have e1 : ¬ ((r.s : Nat) : Int) = (p.1 : Int) := by omega
                go_wp2_with fail
                exact ⟨⟨e + 1, by omega, by go_num, NXH.out (NO.out (fun h => er h.1)), UN.out⟩, by simp [intOf] <;> omega⟩
          · as_aux_lemma =>
            have NO : Hid (¬ (v.k = 0 ∧ v.i = false ∧ ∃ r, F v.v = some r ∧ r.s = p.1 ∧ r.k = p.2)) := fun h => by rw [hk] at h; exact absurd h.1 (by simp)
            rw [hk] at a0
            clear hat hk hu
            go_wp2_with fail
            exact ⟨⟨e + 1, by omega, by go_num, NXH.out NO.out, UH.out.trans (Upd.alloc [] _ _) (by simp)⟩, by simp [intOf] <;> omega⟩
        · as_aux_lemma =>
          have he2 : e = t.evs.length := by omega
          have BN : Hid (Blk wr (b0 + 3) 102 #[.int .u8 0, .int .i64 0, .int .i64 0, .int .i64 0, .int .i64 0, .int .i64 0, .int .i64 0, .pointer none]) := Blk.keep B4.out UH.out (by simp)
          have ND : Hid (¬ Dir hs F p q) := fun h => by
            rcases h with h | ⟨e', x, r, h1, h2, h3, h4, h5, h6⟩
            · exact hd h
            · obtain ⟨l9, t9, y1, y2, y3⟩ := h1
              rw [L3.out] at y1; injection y1 with y1; subst y1
              rw [T3.out] at y2; injection y2 with y2; subst y2
              exact hn e' x (by have := (List.getElem?_eq_some_iff.mp y3).1; omega) y3 ⟨h2, h3, r, h4, h5, h6⟩
          clear hn hu
          go_wp2_with (refine wpList_store_row rfl 102 (.tmp 8) (.tmp 86) rfl (b0 + 3) _ rfl rfl 102 _ BN.out hi102 rfl (by simp [Value.oneCell']) ?_)
          refine bodyPost_ret (results42 _ _ (b0 + 3) _ (.bool false) rfl rfl (setRow_heap wr (b0 + 3) _ _ 102 (0, 0) BN.out) hi102) rfl ?_
          refine ⟨_, _, _, _, _, _, _, false, rfl, fun h => absurd h ND.out, ?_⟩
          refine Upd.below (S := []) ((UW.out.trans UH.out (by simp)).trans (updRow wr (b0 + 3) _) (fun k hk => ?_)) (Nat.le_refl _) (by simp)
          have := HB0.out; simp at hk; exact .inr (by omega)
end Go.Proofs.YbulkctquGreatFmt

/-
  versions, walked over a history that breaks no rule.
-/
import Derived.Test.YbulkctquGreatFmtVersP
import Derived.Test.YbulkctquGreatFmtMaps2
import Derived.Deep.RegionWith
import Derived.BigQuiet
import Derived.Deep.DeepCutAuto
namespace Go.Proofs.YbulkctquGreatFmt
open Go.ChangeShapes Go.WideShapes Go.ChangeAt Go.RowKit Go.Ord
set_option linter.unusedVariables false

theorem zero114 (w : World) : (zeroValue 114).run Ybaz.prog w = .ok (.agg #[.int .i64 0, .int .i64 0, .int .i64 0, .int .i64 0]) w := by
  have h : (Ybaz.prog.info? 114).map (fun i => i.zero) = some (some (.agg #[.int .i64 0, .int .i64 0, .int .i64 0, .int .i64 0])) := by kernel_rfl
  cases hq : Ybaz.prog.info? 114 with
  | none => rw [hq] at h; cases h
  | some i => rw [hq] at h; simp at h; simp [zeroValue, typeInfo, hq, h]
theorem zero35 (w : World) : (zeroValue 35).run Ybaz.prog w = .ok (.int .u64 0) w := by
  have h : (Ybaz.prog.info? 35).map (fun i => i.zero) = some (some (.int .u64 0)) := by kernel_rfl
  cases hq : Ybaz.prog.info? 35 with
  | none => rw [hq] at h; cases h
  | some i => rw [hq] at h; simp at h; simp [zeroValue, typeInfo, hq, h]
theorem key35 : KeyLaw Ybaz.prog 35 (ik .u64) := intKeys Ybaz.underlying35
theorem field37_1 (a b c d : Value) (w : World) : (Instr.field 37 (.agg #[a, b, c, d]) 1).run Ybaz.prog w = .ok b w := by
  simp [Instr.field, run_underlying Ybaz.underlying37, asAgg, part, isAgg, run_underlying Ybaz.underlying35]
theorem Upd.of_below {w w' : World} {B : Nat} (h : Below B w w') (hB : B = w.heap.size) : Upd [] w w' :=
  ⟨h.os, h.tape, h.output, h.size, fun k hk _ => h.block k (by omega)⟩

/-- The call's own memory. -/
structure VM (w0 w : World) (top n cap : Nat) (F : Nat → Option Wr) (L : Nat → Option Nat) : Prop where
  bel : Below w0.heap.size w0 w
  box : w.cell? ⟨w0.heap.size, 0, none⟩ = some (.slice (some ⟨top, 0, none⟩) n cap)
  mF : MapAt w (ik .u64) (w0.heap.size + 1) (fun v => (F v).map Wr.val)
  mL : MapAt w (ik .u64) (w0.heap.size + 2) (fun v => (L v).map (ik .u64))
theorem VM.size {w0 w : World} {top n cap : Nat} {F : Nat → Option Wr} {L : Nat → Option Nat} (h : VM w0 w top n cap F L) : w0.heap.size + 3 ≤ w.heap.size := h.mL.lt
theorem VM.keep {w0 w w' : World} {top n cap : Nat} {F : Nat → Option Wr} {L : Nat → Option Nat} (h : VM w0 w top n cap F L) {S : List Nat} (hu : Upd S w w') (hS : ∀ k ∈ S, w0.heap.size + 3 ≤ k) : VM w0 w' top n cap F L := by
  have q : ∀ j, j < w0.heap.size + 3 → j ∉ S := fun j hj hm => by have := hS j hm; omega
  exact ⟨h.bel.trans (hu.below h.bel.size (fun k hk => by have := hS k hk; omega)), hu.cell h.box (q _ (by omega)), h.mF.keep hu (q _ (by omega)), h.mL.keep hu (q _ (by omega))⟩
theorem VM.first (w : World) (top n cap : Nat) : VM w (((w.alloc (.cells #[.slice (some ⟨top, 0, none⟩) n cap] 29)).alloc (.map #[] 0)).alloc (.map #[] 0)) top n cap (fun _ => none) (fun _ => none) := by
  obtain ⟨x1, e1⟩ : ∃ z : World, z = w.alloc (.cells #[.slice (some ⟨top, 0, none⟩) n cap] 29) := ⟨_, rfl⟩
  obtain ⟨x2, e2⟩ : ∃ z : World, z = x1.alloc (.map #[] 0) := ⟨_, rfl⟩
  obtain ⟨x3, e3⟩ : ∃ z : World, z = x2.alloc (.map #[] 0) := ⟨_, rfl⟩
  have z1 : x1.heap.size = w.heap.size + 1 := by rw [e1]; simp
  have z2 : x2.heap.size = w.heap.size + 2 := by rw [e2]; simp [z1]
  have u1 : Upd [] w x1 := by rw [e1]; exact Upd.alloc _ _ _
  have u2 : Upd [] x1 x2 := by rw [e2]; exact Upd.alloc _ _ _
  have u3 : Upd [] x2 x3 := by rw [e3]; exact Upd.alloc _ _ _
  have U := (u1.trans u2 (by simp)).trans u3 (by simp)
  have k0 : Blk x1 w.heap.size 29 #[.slice (some ⟨top, 0, none⟩) n cap] := by rw [e1]; exact Blk.new _ _ _
  have m1 := MapAt.new x1 (ik .u64)
  have m2 := MapAt.new x2 (ik .u64)
  rw [← e2, z1] at m1
  rw [← e3, z2] at m2
  rw [← e1, ← e2, ← e3]
  exact ⟨U.below (Nat.le_refl _) (by simp), (Blk.keep (Blk.keep k0 u2 (by simp)) u3 (by simp)).cell 0, (m1.keep u3 (by simp)).congr (fun _ => rfl), m2.congr (fun _ => rfl)⟩
theorem VM.wipe {w0 w w' : World} {top n cap : Nat} {F : Nat → Option Wr} {L : Nat → Option Nat} (h : VM w0 w top n cap F L) (m : MapAt w' (ik .u64) (w0.heap.size + 2) (fun _ => none)) (hu : Upd [w0.heap.size + 2] w w') : VM w0 w' top n cap F (fun _ => none) :=
  ⟨h.bel.trans (hu.below h.bel.size (by simp)), hu.cell h.box (by simp), h.mF.keep hu (by simp), m.congr (fun _ => rfl)⟩
theorem VM.putF {w0 w w' : World} {top n cap : Nat} {F : Nat → Option Wr} {L : Nat → Option Nat} (h : VM w0 w top n cap F L) {u : Nat} {q : Wr} {V : Value} (hV : V = q.val) (m : MapAt w' (ik .u64) (w0.heap.size + 1) (fun v => if v = u then some V else (F v).map Wr.val)) (hu : Upd [w0.heap.size + 1] w w') : VM w0 w' top n cap (fun v => if v = u then some q else F v) L := by
  subst hV
  refine ⟨h.bel.trans (hu.below h.bel.size (by simp)), hu.cell h.box (by simp), m.congr (fun v => ?_), h.mL.keep hu (by simp)⟩
  by_cases e : v = u <;> simp [e]
theorem VM.putL {w0 w w' : World} {top n cap : Nat} {F : Nat → Option Wr} {L : Nat → Option Nat} (h : VM w0 w top n cap F L) {y u : Nat} (m : MapAt w' (ik .u64) (w0.heap.size + 2) (fun v => if v = y then some (.int .u64 u) else (L v).map (ik .u64))) (hu : Upd [w0.heap.size + 2] w w') : VM w0 w' top n cap F (fun v => if v = y then some u else L v) := by
  refine ⟨h.bel.trans (hu.below h.bel.size (by simp)), hu.cell h.box (by simp), h.mF.keep hu (by simp), m.congr (fun v => ?_)⟩
  by_cases e : v = y <;> simp [e, ik]

set_option maxHeartbeats 16000000 in
set_option maxRecDepth 100000 in
theorem versions11 (w : World) (R : HR) (hs : List (List Tx)) (H : HistE w R hs) (O : HOk hs) (cap : Nat) :
    Calls Ybaz.prog 11 #[.agg #[.slice (some ⟨R.top, 0, none⟩) hs.length cap]] w fun r w' => ∃ (b : Nat) (F : Nat → Option Wr), r = .returned (.tuple #[.map (some b), .nilIface]) ∧ MapAt w' (ik .u64) b (fun v => (F v).map Wr.val) ∧ w.heap.size ≤ b ∧ Below w.heap.size w w' ∧ WF hs F := by
  have H' : Hid _ := H
  have O' : Hid _ := O
  have I0 : Hid _ := VM.first w R.top hs.length cap
  have S1 := O.small
  clear H O
  have hmm := @run_makeMap Ybaz.prog
  go_enter Ybaz.func11, Ybaz.ntmps11
  go_wp2_with fail
  clear hmm
  obtain ⟨W3, hW3⟩ : ∃ z : World, z = (((w.alloc (.cells #[.slice (some ⟨R.top, 0, none⟩) hs.length cap] 29)).alloc (.map #[] 0)).alloc (.map #[] 0)) := ⟨_, rfl⟩
  rw [← hW3] at I0 ⊢
  clear hW3
  rw [show w.heap.size + 1 + 1 = w.heap.size + 2 from rfl]
  go_loopw [31] (fun t31 wr => ∃ (s : Nat) (F : Nat → Option Wr) (L L' : Nat → Option Nat), s ≤ hs.length ∧ t31 = .int .i64 s ∧ VM w wr R.top hs.length cap F L ∧ WI hs s 0 0 F L') (fun u _ => hs.length - (intOf u).toNat)
  case atStart => exact ⟨0, _, _, _, by omega, rfl, I0.out, WI.start hs⟩
  case round =>
    obtain ⟨s, F, L, L', hs1, rfl, h2, h3⟩ := hrel
    have V1 : Hid _ := h2
    have W1 : Hid _ := h3
    clear h2 h3
    by_cases hlt : s < hs.length
    · obtain ⟨l, hl3⟩ : ∃ l, hs[s]? = some l := ⟨_, List.getElem?_eq_getElem hlt⟩
      have L3 : Hid _ := hl3
      obtain ⟨o, c1, c2⟩ := (H'.out.below V1.out.bel).base.ses s l hl3
      have C2 : Hid _ := c2
      have hll := O'.out.small2 l (List.mem_of_getElem? hl3)
      clear c2 hl3
      go_wp2_with fail
      clear c1
      go_loopw [38] (fun t38 wr => ∃ (k : Nat) (F : Nat → Option Wr) (L L' : Nat → Option Nat), k ≤ l.length ∧ t38 = .int .i64 k ∧ VM w wr R.top hs.length cap F L ∧ WI hs s k 0 F L') (fun u _ => l.length - (intOf u).toNat)
      case atStart => exact ⟨0, _, _, _, by omega, rfl, V1.out, W1.out⟩
      case round =>
        obtain ⟨k, F, L, L', hk1, rfl, h2, h3⟩ := hrel
        have V2 : Hid _ := h2
        have W2 : Hid _ := h3
        clear h2 h3
        by_cases hlt2 : k < l.length
        · obtain ⟨t, ht⟩ : ∃ t, l[k]? = some t := ⟨_, List.getElem?_eq_getElem hlt2⟩
          have T3 : Hid _ := ht
          obtain ⟨o2, c3, c4⟩ := (H'.out.below V2.out.bel).base.evs s l k t L3.out ht
          have c5 := (H'.out.below V2.out.bel).base.com s l k t L3.out ht
          have ho : o = some ⟨R.ses s, 0, none⟩ := C2.out (by intro h; rw [h] at hlt2; simp at hlt2)
          subst ho
          have C4 : Hid _ := c4
          have htl := O'.out.small3 l (List.mem_of_getElem? L3.out) t (List.mem_of_getElem? ht)
          clear c4 ht
          have hz := V2.out.size
          go_wp2_with (first
            | (refine wpList_wipe rfl (.tmp 43) 69 rfl Ybaz.underlying69 (w.heap.size + 2) _ (V2.out.mL.keep (Upd.alloc [] _ _) (by simp)) rfl ?_; intro w2 m2 u2; go_loud (have d0 : w2.cell? ⟨wr.heap.size, 0, none⟩ = some (.slice o2 t.evs.length (R.ec s k)) := ((Blk.new wr #[.slice o2 t.evs.length (R.ec s k), .bool t.com] 39).keep u2 (by simp; omega)).cell 0); have M2 : Hid _ := m2; have U2 : Hid _ := u2; clear m2 u2))
          have V3 : Hid _ := (V2.out.keep (Upd.alloc [] _ _) (by simp)).wipe M2.out U2.out
          clear d0 c3 c5 M2 U2
          go_loopw [47] (fun t47 wr => ∃ (e : Nat) (F : Nat → Option Wr) (L : Nat → Option Nat), e ≤ t.evs.length ∧ t47 = .int .i64 e ∧ VM w wr R.top hs.length cap F L ∧ WI hs s k e F L) (fun u _ => t.evs.length - (intOf u).toNat)
          case atStart => exact ⟨0, _, _, by omega, rfl, V3.out, W2.out.wipe⟩
          case round =>
            obtain ⟨e, F, L, he1, rfl, h2, h3⟩ := hrel
            have V4 : Hid _ := h2
            have W4 : Hid _ := h3
            clear h2 h3
            by_cases hlt3 : e < t.evs.length
            · obtain ⟨v, hv⟩ : ∃ v, t.evs[e]? = some v := ⟨_, List.getElem?_eq_getElem hlt3⟩
              have ho2 : o2 = some ⟨R.evs s k, 0, none⟩ := C4.out (by intro h; rw [h] at hlt3; simp at hlt3)
              subst ho2
              have HW := H'.out.below V4.out.bel
              have a0 := HW.ev s l k t e v 0 _ L3.out T3.out hv rfl
              have a1 := HW.ev s l k t e v 1 _ L3.out T3.out hv rfl
              have a2 := HW.ev s l k t e v 2 _ L3.out T3.out hv rfl
              have a3 := HW.ev s l k t e v 3 _ L3.out T3.out hv rfl
              simp only [Nat.add_zero] at a0
              have hat : At hs s k e v := ⟨l, t, L3.out, T3.out, hv⟩
              have hkd := O'.out.kind _ _ _ _ hat
              have hwi := O'.out.wi _ _ _ _ hat
              have hz4 := V4.out.size
              clear HW hv
              rcases hkd with hk | hk
              · rw [hk] at a0
                have W5 : Hid _ := W4.out.read hat hk
                clear hat hwi hk
                go_wp2_with fail
                exact ⟨⟨e + 1, F, L, by omega, by go_num, V4.out.keep ((Upd.alloc [] _ _).trans (Upd.alloc [] _ _) (by simp)) (by simp), W5.out⟩, by simp [intOf] <;> omega⟩
              · have hvi := hwi hk
                rw [hk] at a0
                rw [hvi] at a3
                have FR : Hid _ := W4.out.fresh O'.out hat hk
                have B1 : Hid (∀ A C, Blk (((wr.alloc (.cells #[.int .u8 1, .int .u64 v.x, .int .u64 v.v, .bool false] 37)).alloc A).alloc C) wr.heap.size 37 #[.int .u8 1, .int .u64 v.x, .int .u64 v.v, .bool false]) := fun A C => Blk.keep (Blk.keep (Blk.new _ _ _) (Upd.alloc [] _ _) (by simp)) (Upd.alloc [] _ _) (by simp)
                have B2 : Hid (∀ A C, Blk (((wr.alloc A).alloc (.cells #[.int .i64 s, .int .i64 k, .int .i64 e] 56)).alloc C) (wr.heap.size + 1) 56 #[.int .i64 s, .int .i64 k, .int .i64 e]) := fun A C => by
                  have := Blk.new (wr.alloc A) #[.int .i64 s, .int .i64 k, .int .i64 e] 56
                  rw [show (wr.alloc A).heap.size = wr.heap.size + 1 by simp] at this
                  exact Blk.keep this (Upd.alloc [] _ _) (by simp)
                have V5 : Hid (∀ A B C, VM w (((wr.alloc A).alloc B).alloc C) R.top hs.length cap F L) := fun A B C => V4.out.keep (((Upd.alloc [] _ _).trans (Upd.alloc [] _ _) (by simp)).trans (Upd.alloc [] _ _) (by simp)) (by simp)
                have V6 : Hid (∀ A B, VM w ((wr.alloc A).alloc B) R.top hs.length cap F L) := fun A B => V4.out.keep ((Upd.alloc [] _ _).trans (Upd.alloc [] _ _) (by simp)) (by simp)
                cases hL : L v.x with
                | none =>
                  have LL : Hid (L v.x = none) := hL
                  have W5 : Hid _ := W4.out.write O'.out hat hk hL
                  clear hat hwi hk hL hvi
                  go_wp2_with (first
                    | (at_lookup; refine wpList_look2 rfl (.tmp 87) (.tmp 89) 74 rfl Ybaz.underlying74 key35 (w.heap.size + 1) _ (V6.out _ _).mF v.v zero114 rfl rfl (.agg #[.int .i64 0, .int .i64 0, .int .i64 0, .int .i64 0]) false (by simp only [FR.out]; rfl) (by simp only [FR.out]; rfl) ?_)
                    | (at_lookup; refine wpList_look2 rfl (.tmp 107) (.tmp 109) 69 rfl Ybaz.underlying69 key35 (w.heap.size + 2) _ (V5.out _ _ _).mL v.x zero35 rfl rfl (.int .u64 0) false (by simp only [LL.out]; rfl) (by simp only [LL.out]; rfl) ?_)
                    | (at_mapUpdate; refine wpList_put rfl (.tmp 122) (.tmp 124) (.tmp 126) 69 rfl Ybaz.underlying69 key35 (w.heap.size + 2) _ (V5.out _ _ _).mL v.x (.int .u64 v.v) rfl rfl rfl ?_; intro w2 m2 u2; go_loud (have d0 : w2.cell? ⟨wr.heap.size, 2, none⟩ = some (.int .u64 v.v) := ((B1.out _ _).keep u2 (by simp; omega)).cell 2); go_loud (have d1 : w2.cell? ⟨wr.heap.size + 1, 0, none⟩ = some (.int .i64 s) := ((B2.out _ _).keep u2 (by simp; omega)).cell 0); go_loud (have d2 : w2.cell? ⟨wr.heap.size + 1, 1, none⟩ = some (.int .i64 k) := ((B2.out _ _).keep u2 (by simp; omega)).cell 1); go_loud (have d3 : w2.cell? ⟨wr.heap.size + 1, 2, none⟩ = some (.int .i64 e) := ((B2.out _ _).keep u2 (by simp; omega)).cell 2); have M2 : Hid _ := m2; have U2 : Hid _ := u2; clear m2 u2; have V7 : Hid _ := (V5.out _ _ _).putL M2.out U2.out)
                    | (at_mapUpdate; refine wpList_put rfl (.tmp 127) (.tmp 129) (.tmp 131) 74 rfl Ybaz.underlying74 key35 (w.heap.size + 1) _ V7.out.mF v.v (.agg #[.int .i64 s, .int .i64 k, .int .i64 e, .int .i64 (-1)]) rfl rfl rfl ?_; intro w3 m3 u3; have M3 : Hid _ := m3; have U3 : Hid _ := u3; clear m3 u3))
                  exact ⟨⟨e + 1, _, _, by omega, by go_num, V7.out.putF (q := ⟨s, k, e, -1⟩) rfl M3.out U3.out, W5.out⟩, by simp [intOf] <;> omega⟩
                | some u =>
                  have LL : Hid (L v.x = some u) := hL
                  obtain ⟨q, hq, hq1, hq2, hq3⟩ := W4.out.found hL
                  have FQ : Hid (F u = some q) := hq
                  have W5 : Hid _ := W4.out.write2 O'.out hat hk hL hq
                  clear hat hwi hk hL hvi hq hq1 hq2 hq3
                  have V8 : Hid (∀ A B C D, VM w ((((wr.alloc A).alloc B).alloc C).alloc D) R.top hs.length cap F L) := fun A B C D => (V5.out A B C).keep (Upd.alloc [] _ D) (by simp)
                  have B3 : Hid (∀ C D, Blk ((((wr.alloc (.cells #[.int .u8 1, .int .u64 v.x, .int .u64 v.v, .bool false] 37)).alloc (.cells #[.int .i64 s, .int .i64 k, .int .i64 e] 56)).alloc C).alloc D) wr.heap.size 37 #[.int .u8 1, .int .u64 v.x, .int .u64 v.v, .bool false]) := fun C D => Blk.keep (B1.out _ C) (Upd.alloc [] _ D) (by simp)
                  have B4 : Hid (∀ C D, Blk ((((wr.alloc (.cells #[.int .u8 1, .int .u64 v.x, .int .u64 v.v, .bool false] 37)).alloc (.cells #[.int .i64 s, .int .i64 k, .int .i64 e] 56)).alloc C).alloc D) (wr.heap.size + 1) 56 #[.int .i64 s, .int .i64 k, .int .i64 e]) := fun C D => Blk.keep (B2.out _ C) (Upd.alloc [] _ D) (by simp)
                  go_wp2_with (first
                    | (at_lookup; refine wpList_look2 rfl (.tmp 87) (.tmp 89) 74 rfl Ybaz.underlying74 key35 (w.heap.size + 1) _ (V6.out _ _).mF v.v zero114 rfl rfl (.agg #[.int .i64 0, .int .i64 0, .int .i64 0, .int .i64 0]) false (by simp only [FR.out]; rfl) (by simp only [FR.out]; rfl) ?_)
                    | (at_lookup; refine wpList_look2 rfl (.tmp 107) (.tmp 109) 69 rfl Ybaz.underlying69 key35 (w.heap.size + 2) _ (V5.out _ _ _).mL v.x zero35 rfl rfl (.int .u64 u) true (by simp only [LL.out]; rfl) (by simp only [LL.out]; rfl) ?_)
                    | (at_lookup; refine wpList_look1 rfl (.tmp 114) (.tmp 115) 74 rfl Ybaz.underlying74 key35 (w.heap.size + 1) _ (V5.out _ _ _).mF u zero114 rfl rfl (.agg #[.int .i64 q.s, .int .i64 q.k, .int .i64 q.e, .int .i64 q.n]) (by simp only [FQ.out]; rfl) ?_)
                    | (at_mapUpdate; refine wpList_put rfl (.tmp 119) (.tmp 120) (.tmp 121) 74 rfl Ybaz.underlying74 key35 (w.heap.size + 1) _ (V8.out _ _ _ _).mF u (.agg #[.int .i64 q.s, .int .i64 q.k, .int .i64 q.e, .int .i64 e]) rfl rfl rfl ?_; intro w1 m1 u1; have M1 : Hid _ := m1; have U1 : Hid _ := u1; clear m1; go_loud (have b0 : w1.cell? ⟨wr.heap.size, 1, none⟩ = some (.int .u64 v.x) := ((B3.out _ _).keep u1 (by simp; omega)).cell 1); go_loud (have b1 : w1.cell? ⟨wr.heap.size, 2, none⟩ = some (.int .u64 v.v) := ((B3.out _ _).keep u1 (by simp; omega)).cell 2); have B5 : Hid (Blk w1 wr.heap.size 37 #[.int .u8 1, .int .u64 v.x, .int .u64 v.v, .bool false]) := (B3.out _ _).keep u1 (by simp; omega); have B6 : Hid (Blk w1 (wr.heap.size + 1) 56 #[.int .i64 s, .int .i64 k, .int .i64 e]) := (B4.out _ _).keep u1 (by simp; omega); clear u1; have V9 : Hid _ := (V8.out _ _ _ _).putF (q := { q with n := e }) rfl M1.out U1.out)
                    | (at_mapUpdate; refine wpList_put rfl (.tmp 122) (.tmp 124) (.tmp 126) 69 rfl Ybaz.underlying69 key35 (w.heap.size + 2) _ V9.out.mL v.x (.int .u64 v.v) rfl rfl rfl ?_; intro w2 m2 u2; go_loud (have d0 : w2.cell? ⟨wr.heap.size, 2, none⟩ = some (.int .u64 v.v) := (Blk.keep B5.out u2 (by simp; omega)).cell 2); go_loud (have d1 : w2.cell? ⟨wr.heap.size + 1, 0, none⟩ = some (.int .i64 s) := (Blk.keep B6.out u2 (by simp; omega)).cell 0); go_loud (have d2 : w2.cell? ⟨wr.heap.size + 1, 1, none⟩ = some (.int .i64 k) := (Blk.keep B6.out u2 (by simp; omega)).cell 1); go_loud (have d3 : w2.cell? ⟨wr.heap.size + 1, 2, none⟩ = some (.int .i64 e) := (Blk.keep B6.out u2 (by simp; omega)).cell 2); have M2 : Hid _ := m2; have U2 : Hid _ := u2; clear m2 u2; have V7 : Hid _ := V9.out.putL M2.out U2.out)
                    | (at_mapUpdate; refine wpList_put rfl (.tmp 127) (.tmp 129) (.tmp 131) 74 rfl Ybaz.underlying74 key35 (w.heap.size + 1) _ V7.out.mF v.v (.agg #[.int .i64 s, .int .i64 k, .int .i64 e, .int .i64 (-1)]) rfl rfl rfl ?_; intro w3 m3 u3; have M3 : Hid _ := m3; have U3 : Hid _ := u3; clear m3 u3))
                  exact ⟨⟨e + 1, _, _, by omega, by go_num, V7.out.putF (q := ⟨s, k, e, -1⟩) rfl M3.out U3.out, W5.out⟩, by simp [intOf] <;> omega⟩
            · have he2 : e = t.evs.length := by omega
              subst he2
              go_wp2_with fail
              exact ⟨⟨k + 1, F, L, _, by omega, by go_num, V4.out, W4.out.nextTxn L3.out T3.out⟩, by simp [intOf] <;> omega⟩
        · have hk2 : k = l.length := by omega
          subst hk2
          go_wp2_with fail
          exact ⟨⟨s + 1, F, L, _, by omega, by go_num, V2.out, W2.out.nextSes L3.out⟩, by simp [intOf] <;> omega⟩
    · have hs2 : s = hs.length := by omega
      have WW : Hid (WF hs F) := by
        have := W1.out
        rw [hs2] at this
        exact this.final
      have NB : Hid (s = hs.length) := hs2
      have bx := V1.out.box
      clear hs2
      go_wp2_with fail
      clear bx
      go_loopw [138] (fun t138 wr => ∃ (s : Nat), s ≤ hs.length ∧ t138 = .int .i64 s ∧ VM w wr R.top hs.length cap F L) (fun u _ => hs.length - (intOf u).toNat)
      case atStart => exact ⟨0, by omega, rfl, V1.out⟩
      case round =>
        obtain ⟨s', hs1', rfl, h2⟩ := hrel
        have X1 : Hid _ := h2
        clear h2
        by_cases hlt4 : s' < hs.length
        · obtain ⟨l, hl3⟩ : ∃ l, hs[s']? = some l := ⟨_, List.getElem?_eq_getElem hlt4⟩
          have L3 : Hid _ := hl3
          obtain ⟨o, c1, c2⟩ := (H'.out.below X1.out.bel).base.ses s' l hl3
          have C2 : Hid _ := c2
          have hll := O'.out.small2 l (List.mem_of_getElem? hl3)
          clear c2 hl3
          go_wp2_with fail
          clear c1
          go_loopw [145] (fun t145 wr => ∃ (k : Nat), k ≤ l.length ∧ t145 = .int .i64 k ∧ VM w wr R.top hs.length cap F L) (fun u _ => l.length - (intOf u).toNat)
          case atStart => exact ⟨0, by omega, rfl, X1.out⟩
          case round =>
            obtain ⟨k, hk1, rfl, h2⟩ := hrel
            have X2 : Hid _ := h2
            clear h2
            by_cases hlt5 : k < l.length
            · obtain ⟨t, ht⟩ : ∃ t, l[k]? = some t := ⟨_, List.getElem?_eq_getElem hlt5⟩
              have T3 : Hid _ := ht
              obtain ⟨o2, c3, c4⟩ := (H'.out.below X2.out.bel).base.evs s' l k t L3.out ht
              have c5 := (H'.out.below X2.out.bel).base.com s' l k t L3.out ht
              have ho : o = some ⟨R.ses s', 0, none⟩ := C2.out (by intro h; rw [h] at hlt5; simp at hlt5)
              subst ho
              have C4 : Hid _ := c4
              have htl := O'.out.small3 l (List.mem_of_getElem? L3.out) t (List.mem_of_getElem? ht)
              clear c4 ht
              go_wp2_with fail
              clear c3 c5
              go_loopw [153] (fun t153 wr => ∃ (e : Nat), e ≤ t.evs.length ∧ t153 = .int .i64 e ∧ VM w wr R.top hs.length cap F L) (fun u _ => t.evs.length - (intOf u).toNat)
              case atStart => exact ⟨0, by omega, rfl, X2.out.keep (Upd.alloc [] _ _) (by simp)⟩
              case round =>
                obtain ⟨e, he1, rfl, h2⟩ := hrel
                have X3 : Hid _ := h2
                clear h2
                by_cases hlt6 : e < t.evs.length
                · obtain ⟨v, hv⟩ : ∃ v, t.evs[e]? = some v := ⟨_, List.getElem?_eq_getElem hlt6⟩
                  have ho2 : o2 = some ⟨R.evs s' k, 0, none⟩ := C4.out (by intro h; rw [h] at hlt6; simp at hlt6)
                  subst ho2
                  have HW := H'.out.below X3.out.bel
                  have a0 := HW.ev s' l k t e v 0 _ L3.out T3.out hv rfl
                  have a1 := HW.ev s' l k t e v 1 _ L3.out T3.out hv rfl
                  have a2 := HW.ev s' l k t e v 2 _ L3.out T3.out hv rfl
                  have a3 := HW.ev s' l k t e v 3 _ L3.out T3.out hv rfl
                  simp only [Nat.add_zero] at a0
                  have hat : At hs s' k e v := ⟨l, t, L3.out, T3.out, hv⟩
                  have hkd := O'.out.kind _ _ _ _ hat
                  have hz4 := X3.out.size
                  clear HW hv
                  rcases hkd with hk | hk
                  · rw [hk] at a0
                    cases hi : v.i with
                    | true =>
                      rw [hi] at a3
                      clear hi hat hk
                      go_wp2_with fail
                      exact ⟨⟨e + 1, by omega, by go_num, X3.out.keep (Upd.alloc [] _ _) (by simp)⟩, by simp [intOf] <;> omega⟩
                    | false =>
                      rw [hi] at a3
                      obtain ⟨q, x, g1, g2, g3, g4, g5⟩ := WW.out.read O'.out hat hk hi
                      obtain ⟨l9, t9, y1, y2, y3⟩ := g2
                      have FQ : Hid (F v.v = some q) := g1
                      have hqs : q.s < 1000 := by have := (List.getElem?_eq_some_iff.mp y1).1; omega
                      have Y1 : Hid _ := y1
                      have Y2 : Hid _ := y2
                      have Y3 : Hid _ := y3
                      have X5 : Hid (x.x = v.x) := g5
                      clear hi hat hk g1 g3 g4 g5 y1 y2 y3
                      have X4 : Hid (∀ A, VM w (wr.alloc A) R.top hs.length cap F L) := fun A => X3.out.keep (Upd.alloc [] _ _) (by simp)
                      go_upto_region 43 with (at_lookup; refine wpList_look2 rfl (.tmp 166) (.tmp 168) 74 rfl Ybaz.underlying74 key35 (w.heap.size + 1) _ (X4.out _).mF v.v zero114 rfl rfl (.agg #[.int .i64 q.s, .int .i64 q.k, .int .i64 q.e, .int .i64 q.n]) true (by simp only [FQ.out]; rfl) (by simp only [FQ.out]; rfl) ?_)
                      clear a0 a1 a2 a3
                      obtain ⟨Wn, hWn⟩ : ∃ z : World, z = (wr.alloc (.cells #[.int .u8 0, .int .u64 v.x, .int .u64 v.v, .bool false] 37)).alloc (.cells #[.int .i64 q.s, .int .i64 q.k, .int .i64 q.e, .int .i64 q.n] 114) := ⟨_, rfl⟩
                      rw [← hWn]
                      have XN : VM w Wn R.top hs.length cap F L := by rw [hWn]; exact (X4.out _).keep (Upd.alloc [] _ _) (by simp)
                      have n0 : Wn.cell? ⟨wr.heap.size, 1, none⟩ = some (.int .u64 v.x) := by
                        rw [hWn]
                        exact (Blk.keep (Blk.new wr #[.int .u8 0, .int .u64 v.x, .int .u64 v.v, .bool false] 37) (Upd.alloc [] _ _) (by simp)).cell 1
                      have k1 : Blk Wn (wr.heap.size + 1) 114 #[.int .i64 q.s, .int .i64 q.k, .int .i64 q.e, .int .i64 q.n] := by
                        have := Blk.new (wr.alloc (.cells #[.int .u8 0, .int .u64 v.x, .int .u64 v.v, .bool false] 37)) #[.int .i64 q.s, .int .i64 q.k, .int .i64 q.e, .int .i64 q.n] 114
                        rw [← hWn] at this
                        simpa using this
                      have m0 : Wn.cell? ⟨wr.heap.size + 1, 0, none⟩ = some (.int .i64 q.s) := k1.cell 0
                      have m1 : Wn.cell? ⟨wr.heap.size + 1, 1, none⟩ = some (.int .i64 q.k) := k1.cell 1
                      have m2 : Wn.cell? ⟨wr.heap.size + 1, 2, none⟩ = some (.int .i64 q.e) := k1.cell 2
                      have bx := XN.box
                      have hcon : Hid (Calls Ybaz.prog 25 #[.agg #[.slice (some ⟨R.top, 0, none⟩) hs.length cap], .agg #[.int .i64 q.s, .int .i64 q.k, .int .i64 q.e]] Wn.drew fun r w' => r = .returned (.agg #[.int .u8 x.k, .int .u64 v.x, .int .u64 x.v, .bool x.i]) ∧ Below Wn.heap.size Wn w') := by
                        have hm9 := O'.out.small2 l9 (List.mem_of_getElem? Y1.out)
                        have hm8 := O'.out.small3 l9 (List.mem_of_getElem? Y1.out) t9 (List.mem_of_getElem? Y2.out)
                        have := event25 Wn.drew R hs ((H'.out.below XN.bel).keep (fun b j v h => h)) cap q.s q.k q.e l9 t9 x Y1.out Y2.out Y3.out (by omega) (by omega) (by omega)
                        rw [X5.out] at this
                        exact this.mono (fun r w' h => ⟨h.1, ⟨h.2.os, h.2.tape, h.2.output, h.2.size, h.2.block⟩⟩)
                      have NW : Hid _ := XN
                      have hfld := field37_1
                      have lt1 : wr.heap.size < Wn.heap.size := World.block_lt_of_cell? _ _ n0
                      clear hWn k1 XN
                      go_region_with (go_at_call 25; refine hcon.out.mono ?_; rintro r w' ⟨rfl, hb⟩; go_loud (have f0 : w'.cell? ⟨wr.heap.size, 1, none⟩ = some (.int .u64 v.x) := (hb.cell lt1).trans n0); have HB : Hid _ := hb; clear hb)
                      all_goals go_wp2_with fail
                      all_goals exact ⟨⟨e + 1, by omega, by go_num, NW.out.keep (Upd.of_below HB.out rfl) (by simp)⟩, by simp [intOf] <;> omega⟩
                  · rw [hk] at a0
                    clear hat hk
                    go_wp2_with fail
                    exact ⟨⟨e + 1, by omega, by go_num, X3.out.keep (Upd.alloc [] _ _) (by simp)⟩, by simp [intOf] <;> omega⟩
                · have he2 : e = t.evs.length := by omega
                  subst he2
                  go_wp2_with fail
                  exact ⟨⟨k + 1, by omega, by go_num, X3.out⟩, by simp [intOf] <;> omega⟩
            · have hk2 : k = l.length := by omega
              subst hk2
              go_wp2_with fail
              exact ⟨⟨s' + 1, by omega, by go_num, X2.out⟩, by simp [intOf] <;> omega⟩
        · have hs2 : s' = hs.length := by omega
          subst hs2
          go_wp2_with fail
          go_ret2
          exact ⟨_, F, rfl, X1.out.mF, by omega, X1.out.bel, WW.out⟩
end Go.Proofs.YbulkctquGreatFmt

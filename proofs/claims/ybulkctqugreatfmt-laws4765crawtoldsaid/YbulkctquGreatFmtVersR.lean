/-
  versions, walked over any history.
-/
import Derived.Test.YbulkctquGreatFmtVers
import Derived.Test.YbulkctquGreatFmtVrP
import Derived.Test.YbulkctquGreatFmtErr
import Derived.Test.YbulkctquGreatFmtSeD
namespace Go.Proofs.YbulkctquGreatFmt
open Go.ChangeShapes Go.WideShapes Go.ChangeAt Go.RowKit Go.Ord Go.Extern.Stop Go.Stop Go.Extern
set_option linter.unusedVariables false

theorem bd111 (a b c : Int) (t : TypeId) (p : Addr) (w : World) : (Instr.build 111 #[(0, .agg #[.int .i64 a, .int .i64 b, .int .i64 c]), (1, .iface t (.pointer (some p)))]).run Ybaz.prog w = .ok (.agg #[.int .i64 a, .int .i64 b, .int .i64 c, .iface t (.pointer (some p))]) w := by kernel_rfl
attribute [-go_sem] Go.Instr.build
attribute [-go_sem] Go.Instr.buildSlice
theorem bd56v (a b c : Int) (w : World) : (Instr.build 56 #[(0, .int .i64 a), (1, .int .i64 b), (2, .int .i64 c)]).run Ybaz.prog w = .ok (.agg #[.int .i64 a, .int .i64 b, .int .i64 c]) w := by kernel_rfl
theorem bd114v (a b c n : Int) (w : World) : (Instr.build 114 #[(0, .agg #[.int .i64 a, .int .i64 b, .int .i64 c]), (1, .int .i64 n)]).run Ybaz.prog w = .ok (.agg #[.int .i64 a, .int .i64 b, .int .i64 c, .int .i64 n]) w := by kernel_rfl
theorem bs169a (t : TypeId) (a : Value) (w : World) : (Instr.buildSlice 169 1 #[(0, .iface t a)]).run Ybaz.prog w = .ok (.slice (some ⟨w.heap.size, 0, none⟩) 1 1) (w.alloc (.cells #[.iface t a] 20)) := by kernel_rfl
theorem bs169b (t t' : TypeId) (a b : Value) (w : World) : (Instr.buildSlice 169 2 #[(0, .iface t a), (1, .iface t' b)]).run Ybaz.prog w = .ok (.slice (some ⟨w.heap.size, 0, none⟩) 2 2) (w.alloc (.cells #[.iface t a, .iface t' b] 20)) := by kernel_rfl
theorem bs169c (a b c : Value) (w : World) : (Instr.buildSlice 169 3 #[(0, .iface 35 a), (1, .iface 35 b), (2, .iface 35 c)]).run Ybaz.prog w = .ok (.slice (some ⟨w.heap.size, 0, none⟩) 3 3) (w.alloc (.cells #[.iface 35 a, .iface 35 b, .iface 35 c] 20)) := by kernel_rfl
def VrPost (w : World) (hs : List (List Tx)) : Ending → World → Prop := fun r w' =>
  (∃ (b : Nat) (F : Nat → Option Wr), r = .returned (.tuple #[.map (some b), .nilIface]) ∧ MapAt w' (ik .u64) b (fun v => (F v).map Wr.val) ∧ w.heap.size ≤ b ∧ Below w.heap.size w w' ∧ WF hs F ∧ HOk hs) ∨
  (∃ (t : TypeId) (p : Addr), r = .returned (.tuple #[.map none, .iface t (.pointer (some p))]) ∧ Below w.heap.size w w' ∧ ¬ HOk hs)
set_option maxHeartbeats 16000000 in
set_option maxRecDepth 100000 in
theorem versions11R (F0 : Stop.Interp) (w : World) (hT : F0.told.answers w.tape) (R : HR) (hs : List (List Tx)) (H : HistE w R hs) (B : Bnd hs) (cap : Nat) :
    Calls Ybaz.prog 11 #[.agg #[.slice (some ⟨R.top, 0, none⟩) hs.length cap]] w (Thru (VrPost w hs)) := by
  have H' : Hid _ := H
  have B' : Hid _ := B
  have HT : Hid (F0.told.answers w.tape) := hT
  have hb111 := bd111
  have hb56 := bd56v
  have hb114 := bd114v
  have hbs1 := bs169a
  have hbs2 := bs169b
  have hbs3 := bs169c
  have I0 : Hid _ := VM.first w R.top hs.length cap
  have S1 := B.small
  clear H B hT
  have hmm := @run_makeMap Ybaz.prog
  go_enter Ybaz.func11, Ybaz.ntmps11
  go_wp2_with fail
  clear hmm
  obtain ⟨W3, hW3⟩ : ∃ z : World, z = (((w.alloc (.cells #[.slice (some ⟨R.top, 0, none⟩) hs.length cap] 29)).alloc (.map #[] 0)).alloc (.map #[] 0)) := ⟨_, rfl⟩
  rw [← hW3] at I0 ⊢
  clear hW3
  rw [show w.heap.size + 1 + 1 = w.heap.size + 2 from rfl]
  go_loopw [31] (fun t31 wr => ∃ (s : Nat) (F : Nat → Option Wr) (L L' : Nat → Option Nat), s ≤ hs.length ∧ t31 = .int .i64 s ∧ VM w wr R.top hs.length cap F L ∧ WI hs s 0 0 F L' ∧ G1 hs s 0 0) (fun u _ => hs.length - (intOf u).toNat)
  case atStart => exact ⟨0, _, _, _, by omega, rfl, I0.out, WI.start hs, G1.start⟩
  case round =>
    obtain ⟨s, F, L, L', hs1, rfl, h2, h3, h4⟩ := hrel
    have V1 : Hid _ := h2
    have W1 : Hid _ := h3
    have X1 : Hid (G1 hs s 0 0) := h4
    clear h2 h3 h4
    by_cases hlt : s < hs.length
    · obtain ⟨l, hl3⟩ : ∃ l, hs[s]? = some l := ⟨_, List.getElem?_eq_getElem hlt⟩
      have L3 : Hid _ := hl3
      obtain ⟨o, c1, c2⟩ := (H'.out.below V1.out.bel).base.ses s l hl3
      have C2 : Hid _ := c2
      have hll := B'.out.small2 l (List.mem_of_getElem? hl3)
      clear c2 hl3
      go_wp2_with fail
      clear c1
      go_loopw [38] (fun t38 wr => ∃ (k : Nat) (F : Nat → Option Wr) (L L' : Nat → Option Nat), k ≤ l.length ∧ t38 = .int .i64 k ∧ VM w wr R.top hs.length cap F L ∧ WI hs s k 0 F L' ∧ G1 hs s k 0) (fun u _ => l.length - (intOf u).toNat)
      case atStart => exact ⟨0, _, _, _, by omega, rfl, V1.out, W1.out, X1.out⟩
      case round =>
        obtain ⟨k, F, L, L', hk1, rfl, h2, h3, h4⟩ := hrel
        have V2 : Hid _ := h2
        have W2 : Hid _ := h3
        have X2 : Hid (G1 hs s k 0) := h4
        clear h2 h3 h4
        by_cases hlt2 : k < l.length
        · obtain ⟨t, ht⟩ : ∃ t, l[k]? = some t := ⟨_, List.getElem?_eq_getElem hlt2⟩
          have T3 : Hid _ := ht
          obtain ⟨o2, c3, c4⟩ := (H'.out.below V2.out.bel).base.evs s l k t L3.out ht
          have c5 := (H'.out.below V2.out.bel).base.com s l k t L3.out ht
          have ho : o = some ⟨R.ses s, 0, none⟩ := C2.out (by intro h; rw [h] at hlt2; simp at hlt2)
          subst ho
          have C4 : Hid _ := c4
          have htl := B'.out.small3 l (List.mem_of_getElem? L3.out) t (List.mem_of_getElem? ht)
          clear c4 ht
          have hz := V2.out.size
          go_wp2_with (first
            | (refine wpList_wipe rfl (.tmp 43) 69 rfl Ybaz.underlying69 (w.heap.size + 2) _ (V2.out.mL.keep (Upd.alloc [] _ _) (by simp)) rfl ?_; intro w2 m2 u2; go_loud (have d0 : w2.cell? ⟨wr.heap.size, 0, none⟩ = some (.slice o2 t.evs.length (R.ec s k)) := ((Blk.new wr #[.slice o2 t.evs.length (R.ec s k), .bool t.com] 39).keep u2 (by simp; omega)).cell 0); have M2 : Hid _ := m2; have U2 : Hid _ := u2; clear m2 u2))
          have V3 : Hid _ := (V2.out.keep (Upd.alloc [] _ _) (by simp)).wipe M2.out U2.out
          clear d0 c3 c5 M2 U2
          go_loopw [47] (fun t47 wr => ∃ (e : Nat) (F : Nat → Option Wr) (L : Nat → Option Nat), e ≤ t.evs.length ∧ t47 = .int .i64 e ∧ VM w wr R.top hs.length cap F L ∧ WI hs s k e F L ∧ G1 hs s k e) (fun u _ => t.evs.length - (intOf u).toNat)
          case atStart => exact ⟨0, _, _, by omega, rfl, V3.out, W2.out.wipe, X2.out⟩
          case round =>
            obtain ⟨e, F, L, he1, rfl, h2, h3, h4⟩ := hrel
            have V4 : Hid _ := h2
            have W4 : Hid _ := h3
            have X4 : Hid (G1 hs s k e) := h4
            clear h2 h3 h4
            by_cases hlt3 : e < t.evs.length
            · obtain ⟨v, hv⟩ : ∃ v, t.evs[e]? = some v := ⟨_, List.getElem?_eq_getElem hlt3⟩
              have ho2 : o2 = some ⟨R.evs s k, 0, none⟩ := C4.out (by intro h; rw [h] at hlt3; simp at hlt3)
              subst ho2
              have HW := H'.out.below V4.out.bel
              have a0 := HW.ev s l k t e v 0 _ L3.out T3.out hv rfl
              have a1 := HW.ev s l k t e v 1 _ L3.out T3.out hv rfl
              have a2 := HW.ev s l k t e v 2 _ L3.out T3.out hv rfl
              have a3 := HW.ev s l k t e v 3 _ L3.out T3.out hv rfl
              simp only [Nat.add_zero] at a0
              have hat : At hs s k e v := ⟨l, t, L3.out, T3.out, hv⟩
              have hz4 := V4.out.size
              have hv256 := (B'.out.ev _ _ _ _ hat).1
              have hs90 : s < 90 := by omega
              have hk90 : k < 90 := by omega
              have he90 : e < 90 := by omega
              clear HW hv
              by_cases hkd : v.k = 0 ∨ v.k = 1
              case neg =>
                as_aux_lemma =>
                have NOK : Hid (¬ HOk hs) := fun O => hkd (O.kind _ _ _ _ hat)
                have e0 : ¬ ((v.k : Nat) : Int) = 0 := by omega
                have e1 : ¬ ((v.k : Nat) : Int) = 1 := by omega
                clear hat hkd
                have f0 : (((v.k : Nat) : Int) != 0) = true := by simp; omega
                have f1 : (((v.k : Nat) : Int) != 1) = true := by simp; omega
                have c0 : ¬ v.k = 0 := by omega
                go_upto_region 15 with fail
                obtain ⟨b11, hb11⟩ : ∃ b, b = wr.heap.size := ⟨_, rfl⟩
                obtain ⟨W5, hW5⟩ : ∃ z : World, z = (wr.alloc (.cells #[.int .u8 v.k, .int .u64 v.x, .int .u64 v.v, .bool v.i] 37)).alloc (.cells #[.int .i64 s, .int .i64 k, .int .i64 e] 56) := ⟨_, rfl⟩
                have U5 : Hid (Upd [] wr W5 ∧ Blk W5 b11 37 #[.int .u8 v.k, .int .u64 v.x, .int .u64 v.v, .bool v.i] ∧ Blk W5 (b11 + 1) 56 #[.int .i64 s, .int .i64 k, .int .i64 e]) := by
                  obtain ⟨x1, e1⟩ : ∃ z : World, z = wr.alloc (.cells #[.int .u8 v.k, .int .u64 v.x, .int .u64 v.v, .bool v.i] 37) := ⟨_, rfl⟩
                  rw [← e1] at hW5
                  have z1 : x1.heap.size = b11 + 1 := by rw [e1, hb11]; simp
                  have u1 : Upd [] wr x1 := by rw [e1]; exact Upd.alloc _ _ _
                  have u2 : Upd [] x1 W5 := by rw [hW5]; exact Upd.alloc _ _ _
                  have k0 : Blk x1 b11 37 #[.int .u8 v.k, .int .u64 v.x, .int .u64 v.v, .bool v.i] := by rw [e1, hb11]; exact Blk.new _ _ _
                  have k1 : Blk W5 (b11 + 1) 56 #[.int .i64 s, .int .i64 k, .int .i64 e] := by rw [hW5, ← z1]; exact Blk.new _ _ _
                  exact ⟨u1.trans u2 (by simp), Blk.keep k0 u2 (by simp), k1⟩
                rw [← hW5, ← hb11]
                have h1 : W5.cell? ⟨b11, 1, none⟩ = some (.int .u64 v.x) := U5.out.2.1.cell 1
                have h0 : W5.cell? ⟨b11, 2, none⟩ = some (.int .u64 v.v) := U5.out.2.1.cell 2
                have h2 : W5.cell? ⟨b11 + 1, 0, none⟩ = some (.int .i64 s) := U5.out.2.2.cell 0
                have h3 : W5.cell? ⟨b11 + 1, 1, none⟩ = some (.int .i64 k) := U5.out.2.2.cell 1
                have h4 : W5.cell? ⟨b11 + 1, 2, none⟩ = some (.int .i64 e) := U5.out.2.2.cell 2
                have H1 := World.block_lt_of_cell? _ _ h1
                have H2 := World.block_lt_of_cell? _ _ h2
                have BW : Hid (Below w.heap.size w W5) := V4.out.bel.trans (U5.out.1.below V4.out.bel.size (by simp))
                clear hW5 hb11 a0 a1 a2 a3 U5
                have hcon : Hid (∀ z, Calls Ybaz.prog 23 #[.string z] W5.drew fun e w' => e = .returned (.iface 166 (.pointer (some ⟨W5.heap.size, 0, none⟩))) ∧ w' = W5.drew.alloc (.cells #[.string z] 168)) := fun z => new23 z W5.drew
                go_region_with (go_at_call 23; refine Calls.mono (hcon.out _) ?_; rintro e' w' ⟨rfl, hw'⟩; have UU : Hid (Upd [] W5 w') := (by rw [hw']; exact (Upd.drew [] _).trans (Upd.alloc [] _ _) (by simp)); go_loud (have q2 := UU.out.cell h2 (by simp)); go_loud (have q3 := UU.out.cell h3 (by simp)); go_loud (have q4 := UU.out.cell h4 (by simp)); clear hw')
                all_goals go_wp2_with fail
                all_goals go_ret2
                all_goals (
                  refine .inr ⟨_, _, rfl, BW.out.trans (Upd.below (S := []) (UU.out.trans ?_ (T := []) (by simp)) BW.out.size (by simp)), NOK.out⟩
                  repeat (first | exact Upd.refl _ _ | exact Upd.alloc _ _ _ | exact Upd.drew _ _ | (refine Upd.trans ?_ (Upd.drew [] _) (by simp)) | (refine Upd.trans ?_ (Upd.alloc [] _ _) (by simp))))
              rcases hkd with hk | hk
              · rw [hk] at a0
                have W5 : Hid _ := W4.out.read hat hk
                have X5 : Hid (G1 hs s k (e + 1)) := X4.out.step hat (.inl hk) (fun h => by omega)
                clear hat hk
                go_wp2_with fail
                exact ⟨⟨e + 1, F, L, by omega, by go_num, V4.out.keep ((Upd.alloc [] _ _).trans (Upd.alloc [] _ _) (by simp)) (by simp), W5.out, X5.out⟩, by simp [intOf] <;> omega⟩
              · rw [hk] at a0
                by_cases hvi : v.i = false
                case neg =>
                  as_aux_lemma =>
                  have NOK : Hid (¬ HOk hs) := fun O => hvi (O.wi _ _ _ _ hat hk)
                  have hvt : v.i = true := by simpa using hvi
                  rw [hvt] at a3
                  clear hat hvi hk hvt
                  go_upto_region 18 with fail
                  obtain ⟨b11, hb11⟩ : ∃ b, b = wr.heap.size := ⟨_, rfl⟩
                  obtain ⟨W5, hW5⟩ : ∃ z : World, z = (wr.alloc (.cells #[.int .u8 1, .int .u64 v.x, .int .u64 v.v, .bool true] 37)).alloc (.cells #[.int .i64 s, .int .i64 k, .int .i64 e] 56) := ⟨_, rfl⟩
                  have U5 : Hid (Upd [] wr W5 ∧ Blk W5 b11 37 #[.int .u8 1, .int .u64 v.x, .int .u64 v.v, .bool true] ∧ Blk W5 (b11 + 1) 56 #[.int .i64 s, .int .i64 k, .int .i64 e]) := by
                    obtain ⟨x1, e1⟩ : ∃ z : World, z = wr.alloc (.cells #[.int .u8 1, .int .u64 v.x, .int .u64 v.v, .bool true] 37) := ⟨_, rfl⟩
                    rw [← e1] at hW5
                    have z1 : x1.heap.size = b11 + 1 := by rw [e1, hb11]; simp
                    have u1 : Upd [] wr x1 := by rw [e1]; exact Upd.alloc _ _ _
                    have u2 : Upd [] x1 W5 := by rw [hW5]; exact Upd.alloc _ _ _
                    have k0 : Blk x1 b11 37 #[.int .u8 1, .int .u64 v.x, .int .u64 v.v, .bool true] := by rw [e1, hb11]; exact Blk.new _ _ _
                    have k1 : Blk W5 (b11 + 1) 56 #[.int .i64 s, .int .i64 k, .int .i64 e] := by rw [hW5, ← z1]; exact Blk.new _ _ _
                    exact ⟨u1.trans u2 (by simp), Blk.keep k0 u2 (by simp), k1⟩
                  rw [← hW5, ← hb11]
                  have h1 : W5.cell? ⟨b11, 1, none⟩ = some (.int .u64 v.x) := U5.out.2.1.cell 1
                  have h0 : W5.cell? ⟨b11, 2, none⟩ = some (.int .u64 v.v) := U5.out.2.1.cell 2
                  have h2 : W5.cell? ⟨b11 + 1, 0, none⟩ = some (.int .i64 s) := U5.out.2.2.cell 0
                  have h3 : W5.cell? ⟨b11 + 1, 1, none⟩ = some (.int .i64 k) := U5.out.2.2.cell 1
                  have h4 : W5.cell? ⟨b11 + 1, 2, none⟩ = some (.int .i64 e) := U5.out.2.2.cell 2
                  have H1 := World.block_lt_of_cell? _ _ h1
                  have H2 := World.block_lt_of_cell? _ _ h2
                  have BW : Hid (Below w.heap.size w W5) := V4.out.bel.trans (U5.out.1.below V4.out.bel.size (by simp))
                  clear hW5 hb11 a0 a1 a2 a3 U5
                  have UA : Hid (∀ A, Upd [] W5 ((W5.alloc A).drew)) := fun A => (Upd.alloc [] _ _).trans (Upd.drew [] _) (by simp)
                  have hcon : Hid _ := errf1 W5.heap.size (v.x : Int) ((W5.alloc (.cells #[.iface 35 (.int .u64 (v.x : Int))] 20)).drew) ((Blk.new W5 #[.iface 35 (.int .u64 (v.x : Int))] 20).cell 0)
                  go_region_with (go_at_call 24; refine Calls.mono hcon.out ?_; rintro e' w' ⟨p9, rfl, U9⟩; have UU : Hid (Upd [] W5 w') := (UA.out _).trans U9 (by simp); go_loud (have q2 := UU.out.cell h2 (by simp)); go_loud (have q3 := UU.out.cell h3 (by simp)); go_loud (have q4 := UU.out.cell h4 (by simp)); clear U9)
                  all_goals go_wp2_with fail
                  all_goals go_ret2
                  all_goals (
                    refine .inr ⟨_, _, rfl, BW.out.trans (Upd.below (S := []) (UU.out.trans ?_ (T := []) (by simp)) BW.out.size (by simp)), NOK.out⟩
                    repeat (first | exact Upd.refl _ _ | exact Upd.alloc _ _ _ | exact Upd.drew _ _ | (refine Upd.trans ?_ (Upd.drew [] _) (by simp)) | (refine Upd.trans ?_ (Upd.alloc [] _ _) (by simp))))
                rw [hvi] at a3
                cases hFv : F v.v with
                | some q =>
                  as_aux_lemma =>
                  obtain ⟨u1, x, u2, u3, u4, _⟩ := W4.out.fwd _ _ hFv
                  have NOK : Hid (¬ HOk hs) := fun O => by
                    have := O.uniq _ _ _ _ _ _ _ _ u2 hat u3 hk u4
                    unfold Bef at u1
                    omega
                  have hq1 : q.s < 90 := by obtain ⟨l9, t9, z1, _⟩ := u2; have := (List.getElem?_eq_some_iff.mp z1).1; omega
                  have hq2 : q.k < 90 := by obtain ⟨l9, t9, z1, z2, _⟩ := u2; have := (List.getElem?_eq_some_iff.mp z2).1; have := B'.out.small2 l9 (List.mem_of_getElem? z1); omega
                  have hq3 : q.e < 90 := by obtain ⟨l9, t9, z1, z2, z3⟩ := u2; have := (List.getElem?_eq_some_iff.mp z3).1; have := B'.out.small3 l9 (List.mem_of_getElem? z1) t9 (List.mem_of_getElem? z2); omega
                  have FQ : Hid (F v.v = some q) := hFv
                  clear hat hvi hk hFv u1 u2 u3 u4
                  have V6 : Hid (∀ A B, VM w ((wr.alloc A).alloc B) R.top hs.length cap F L) := fun A B => V4.out.keep ((Upd.alloc [] _ _).trans (Upd.alloc [] _ _) (by simp)) (by simp)
                  go_upto_region 21 with (at_lookup; refine wpList_look2 rfl (.tmp 87) (.tmp 89) 74 rfl Ybaz.underlying74 key35 (w.heap.size + 1) _ (V6.out _ _).mF v.v zero114 rfl rfl (.agg #[.int .i64 q.s, .int .i64 q.k, .int .i64 q.e, .int .i64 q.n]) true (by simp only [FQ.out]; rfl) (by simp only [FQ.out]; rfl) ?_)
                  obtain ⟨b11, hb11⟩ : ∃ b, b = wr.heap.size := ⟨_, rfl⟩
                  obtain ⟨W5, hW5⟩ : ∃ z : World, z = (wr.alloc (.cells #[.int .u8 1, .int .u64 v.x, .int .u64 v.v, .bool false] 37)).alloc (.cells #[.int .i64 s, .int .i64 k, .int .i64 e] 56) := ⟨_, rfl⟩
                  have U5 : Hid (Upd [] wr W5 ∧ Blk W5 b11 37 #[.int .u8 1, .int .u64 v.x, .int .u64 v.v, .bool false] ∧ Blk W5 (b11 + 1) 56 #[.int .i64 s, .int .i64 k, .int .i64 e]) := by
                    obtain ⟨x1, e1⟩ : ∃ z : World, z = wr.alloc (.cells #[.int .u8 1, .int .u64 v.x, .int .u64 v.v, .bool false] 37) := ⟨_, rfl⟩
                    rw [← e1] at hW5
                    have z1 : x1.heap.size = b11 + 1 := by rw [e1, hb11]; simp
                    have u1 : Upd [] wr x1 := by rw [e1]; exact Upd.alloc _ _ _
                    have u2 : Upd [] x1 W5 := by rw [hW5]; exact Upd.alloc _ _ _
                    have k0 : Blk x1 b11 37 #[.int .u8 1, .int .u64 v.x, .int .u64 v.v, .bool false] := by rw [e1, hb11]; exact Blk.new _ _ _
                    have k1 : Blk W5 (b11 + 1) 56 #[.int .i64 s, .int .i64 k, .int .i64 e] := by rw [hW5, ← z1]; exact Blk.new _ _ _
                    exact ⟨u1.trans u2 (by simp), Blk.keep k0 u2 (by simp), k1⟩
                  rw [← hW5, ← hb11]
                  try rw [show b11 + 1 + 1 = b11 + 2 from rfl]
                  have hsz : W5.heap.size = b11 + 2 := by rw [hW5, hb11]; simp
                  have h1 : W5.cell? ⟨b11, 1, none⟩ = some (.int .u64 v.x) := U5.out.2.1.cell 1
                  have h0 : W5.cell? ⟨b11, 2, none⟩ = some (.int .u64 v.v) := U5.out.2.1.cell 2
                  have h2 : W5.cell? ⟨b11 + 1, 0, none⟩ = some (.int .i64 s) := U5.out.2.2.cell 0
                  have h3 : W5.cell? ⟨b11 + 1, 1, none⟩ = some (.int .i64 k) := U5.out.2.2.cell 1
                  have h4 : W5.cell? ⟨b11 + 1, 2, none⟩ = some (.int .i64 e) := U5.out.2.2.cell 2
                  have H1 := World.block_lt_of_cell? _ _ h1
                  have H2 := World.block_lt_of_cell? _ _ h2
                  have BW : Hid (Below w.heap.size w W5) := V4.out.bel.trans (U5.out.1.below V4.out.bel.size (by simp))
                  clear hW5 hb11 a0 a1 a2 a3 U5
                  obtain ⟨W6, hW6⟩ : ∃ z : World, z = W5.alloc (.cells #[.int .i64 q.s, .int .i64 q.k, .int .i64 q.e, .int .i64 q.n] 114) := ⟨_, rfl⟩
                  have UB : Hid (Upd [] W5 W6) := by rw [hW6]; exact Upd.alloc _ _ _
                  have B6 : Hid (Blk W6 (b11 + 2) 114 #[.int .i64 q.s, .int .i64 q.k, .int .i64 q.e, .int .i64 q.n]) := by rw [hW6, ← hsz]; exact Blk.new _ _ _
                  rw [← hW6]
                  have HT6 : Hid (F0.told.answers W6.tape) := by
                    have e1 : W6.tape = w.tape := UB.out.tape.trans BW.out.tape
                    show F0.told.answers W6.tape
                    rw [e1]; exact HT.out
                  clear hW6 hsz
                  have m1 := UB.out.cell h1 (by simp)
                  have m0 := UB.out.cell h0 (by simp)
                  have m2 := UB.out.cell h2 (by simp)
                  have m3 := UB.out.cell h3 (by simp)
                  have m4 := UB.out.cell h4 (by simp)
                  have n0 : W6.cell? ⟨b11 + 2, 0, none⟩ = some (.int .i64 q.s) := B6.out.cell 0
                  have n1 : W6.cell? ⟨b11 + 2, 1, none⟩ = some (.int .i64 q.k) := B6.out.cell 1
                  have n2 : W6.cell? ⟨b11 + 2, 2, none⟩ = some (.int .i64 q.e) := B6.out.cell 2
                  have H6 := World.block_lt_of_cell? _ _ m1
                  have H7 := World.block_lt_of_cell? _ _ m2
                  have H8 := World.block_lt_of_cell? _ _ n0
                  have UA : Hid (∀ A, Upd [] W5 ((W6.alloc A).drew)) := fun A => UB.out.trans ((Upd.alloc [] _ _).trans (Upd.drew [] _) (by simp)) (by simp)
                  have BN := Blk.new W6 #[.iface 35 (.int .u64 (v.v : Int)), .iface 56 (.agg #[.int .i64 q.s, .int .i64 q.k, .int .i64 q.e])] 20
                  have hcon : Hid _ := errf2 F0 W6.heap.size (v.v : Int) q.s q.k q.e hq1 hq2 hq3 ((W6.alloc (.cells #[.iface 35 (.int .u64 (v.v : Int)), .iface 56 (.agg #[.int .i64 q.s, .int .i64 q.k, .int .i64 q.e])] 20)).drew) HT6.out (BN.cell 0) (BN.cell 1)
                  clear BN
                  go_region_with (go_at_call 24; refine Calls.mono hcon.out ?_; rintro e' w' ⟨p9, rfl, U9⟩; have UU : Hid (Upd [] W5 w') := (UA.out _).trans U9 (by simp); go_loud (have q2 := UU.out.cell h2 (by simp)); go_loud (have q3 := UU.out.cell h3 (by simp)); go_loud (have q4 := UU.out.cell h4 (by simp)); clear U9)
                  all_goals go_wp2_with fail
                  all_goals go_ret2
                  all_goals (
                    refine .inr ⟨_, _, rfl, BW.out.trans (Upd.below (S := []) (UU.out.trans ?_ (T := []) (by simp)) BW.out.size (by simp)), NOK.out⟩
                    repeat (first | exact Upd.refl _ _ | exact Upd.alloc _ _ _ | exact Upd.drew _ _ | (refine Upd.trans ?_ (Upd.drew [] _) (by simp)) | (refine Upd.trans ?_ (Upd.alloc [] _ _) (by simp))))
                | none =>
                have FR : Hid (F v.v = none) := hFv
                have X5 : Hid (G1 hs s k (e + 1)) := X4.out.step hat (.inr hk) (fun _ => hvi)
                have B1 : Hid (∀ A C, Blk (((wr.alloc (.cells #[.int .u8 1, .int .u64 v.x, .int .u64 v.v, .bool false] 37)).alloc A).alloc C) wr.heap.size 37 #[.int .u8 1, .int .u64 v.x, .int .u64 v.v, .bool false]) := fun A C => Blk.keep (Blk.keep (Blk.new _ _ _) (Upd.alloc [] _ _) (by simp)) (Upd.alloc [] _ _) (by simp)
                have B2 : Hid (∀ A C, Blk (((wr.alloc A).alloc (.cells #[.int .i64 s, .int .i64 k, .int .i64 e] 56)).alloc C) (wr.heap.size + 1) 56 #[.int .i64 s, .int .i64 k, .int .i64 e]) := fun A C => by
                  have := Blk.new (wr.alloc A) #[.int .i64 s, .int .i64 k, .int .i64 e] 56
                  rw [show (wr.alloc A).heap.size = wr.heap.size + 1 by simp] at this
                  exact Blk.keep this (Upd.alloc [] _ _) (by simp)
                have V5 : Hid (∀ A B C, VM w (((wr.alloc A).alloc B).alloc C) R.top hs.length cap F L) := fun A B C => V4.out.keep (((Upd.alloc [] _ _).trans (Upd.alloc [] _ _) (by simp)).trans (Upd.alloc [] _ _) (by simp)) (by simp)
                have V6 : Hid (∀ A B, VM w ((wr.alloc A).alloc B) R.top hs.length cap F L) := fun A B => V4.out.keep ((Upd.alloc [] _ _).trans (Upd.alloc [] _ _) (by simp)) (by simp)
                cases hL : L v.x with
                | none =>
                  have LL : Hid (L v.x = none) := hL
                  have W5 : Hid _ := W4.out.writeF hat hk hL hFv
                  clear hat hk hL hvi hFv
                  go_wp2_with (first
                    | (at_lookup; refine wpList_look2 rfl (.tmp 87) (.tmp 89) 74 rfl Ybaz.underlying74 key35 (w.heap.size + 1) _ (V6.out _ _).mF v.v zero114 rfl rfl (.agg #[.int .i64 0, .int .i64 0, .int .i64 0, .int .i64 0]) false (by simp only [FR.out]; rfl) (by simp only [FR.out]; rfl) ?_)
                    | (at_lookup; refine wpList_look2 rfl (.tmp 107) (.tmp 109) 69 rfl Ybaz.underlying69 key35 (w.heap.size + 2) _ (V5.out _ _ _).mL v.x zero35 rfl rfl (.int .u64 0) false (by simp only [LL.out]; rfl) (by simp only [LL.out]; rfl) ?_)
                    | (at_mapUpdate; refine wpList_put rfl (.tmp 122) (.tmp 124) (.tmp 126) 69 rfl Ybaz.underlying69 key35 (w.heap.size + 2) _ (V5.out _ _ _).mL v.x (.int .u64 v.v) rfl rfl rfl ?_; intro w2 m2 u2; go_loud (have d0 : w2.cell? ⟨wr.heap.size, 2, none⟩ = some (.int .u64 v.v) := ((B1.out _ _).keep u2 (by simp; omega)).cell 2); go_loud (have d1 : w2.cell? ⟨wr.heap.size + 1, 0, none⟩ = some (.int .i64 s) := ((B2.out _ _).keep u2 (by simp; omega)).cell 0); go_loud (have d2 : w2.cell? ⟨wr.heap.size + 1, 1, none⟩ = some (.int .i64 k) := ((B2.out _ _).keep u2 (by simp; omega)).cell 1); go_loud (have d3 : w2.cell? ⟨wr.heap.size + 1, 2, none⟩ = some (.int .i64 e) := ((B2.out _ _).keep u2 (by simp; omega)).cell 2); have M2 : Hid _ := m2; have U2 : Hid _ := u2; clear m2 u2; have V7 : Hid _ := (V5.out _ _ _).putL M2.out U2.out)
                    | (at_mapUpdate; refine wpList_put rfl (.tmp 127) (.tmp 129) (.tmp 131) 74 rfl Ybaz.underlying74 key35 (w.heap.size + 1) _ V7.out.mF v.v (.agg #[.int .i64 s, .int .i64 k, .int .i64 e, .int .i64 (-1)]) rfl rfl rfl ?_; intro w3 m3 u3; have M3 : Hid _ := m3; have U3 : Hid _ := u3; clear m3 u3))
                  exact ⟨⟨e + 1, _, _, by omega, by go_num, V7.out.putF (q := ⟨s, k, e, -1⟩) rfl M3.out U3.out, W5.out, X5.out⟩, by simp [intOf] <;> omega⟩
                | some u =>
                  have LL : Hid (L v.x = some u) := hL
                  obtain ⟨q, hq, hq1, hq2, hq3⟩ := W4.out.found hL
                  have FQ : Hid (F u = some q) := hq
                  have W5 : Hid _ := W4.out.write2F hat hk hL hq hFv
                  clear hat hk hL hvi hq hq1 hq2 hq3 hFv
                  have V8 : Hid (∀ A B C D, VM w ((((wr.alloc A).alloc B).alloc C).alloc D) R.top hs.length cap F L) := fun A B C D => (V5.out A B C).keep (Upd.alloc [] _ D) (by simp)
                  have B3 : Hid (∀ C D, Blk ((((wr.alloc (.cells #[.int .u8 1, .int .u64 v.x, .int .u64 v.v, .bool false] 37)).alloc (.cells #[.int .i64 s, .int .i64 k, .int .i64 e] 56)).alloc C).alloc D) wr.heap.size 37 #[.int .u8 1, .int .u64 v.x, .int .u64 v.v, .bool false]) := fun C D => Blk.keep (B1.out _ C) (Upd.alloc [] _ D) (by simp)
                  have B4 : Hid (∀ C D, Blk ((((wr.alloc (.cells #[.int .u8 1, .int .u64 v.x, .int .u64 v.v, .bool false] 37)).alloc (.cells #[.int .i64 s, .int .i64 k, .int .i64 e] 56)).alloc C).alloc D) (wr.heap.size + 1) 56 #[.int .i64 s, .int .i64 k, .int .i64 e]) := fun C D => Blk.keep (B2.out _ C) (Upd.alloc [] _ D) (by simp)
                  go_wp2_with (first
                    | (at_lookup; refine wpList_look2 rfl (.tmp 87) (.tmp 89) 74 rfl Ybaz.underlying74 key35 (w.heap.size + 1) _ (V6.out _ _).mF v.v zero114 rfl rfl (.agg #[.int .i64 0, .int .i64 0, .int .i64 0, .int .i64 0]) false (by simp only [FR.out]; rfl) (by simp only [FR.out]; rfl) ?_)
                    | (at_lookup; refine wpList_look2 rfl (.tmp 107) (.tmp 109) 69 rfl Ybaz.underlying69 key35 (w.heap.size + 2) _ (V5.out _ _ _).mL v.x zero35 rfl rfl (.int .u64 u) true (by simp only [LL.out]; rfl) (by simp only [LL.out]; rfl) ?_)
                    | (at_lookup; refine wpList_look1 rfl (.tmp 114) (.tmp 115) 74 rfl Ybaz.underlying74 key35 (w.heap.size + 1) _ (V5.out _ _ _).mF u zero114 rfl rfl (.agg #[.int .i64 q.s, .int .i64 q.k, .int .i64 q.e, .int .i64 q.n]) (by simp only [FQ.out]; rfl) ?_)
                    | (at_mapUpdate; refine wpList_put rfl (.tmp 119) (.tmp 120) (.tmp 121) 74 rfl Ybaz.underlying74 key35 (w.heap.size + 1) _ (V8.out _ _ _ _).mF u (.agg #[.int .i64 q.s, .int .i64 q.k, .int .i64 q.e, .int .i64 e]) rfl rfl rfl ?_; intro w1 m1 u1; have M1 : Hid _ := m1; have U1 : Hid _ := u1; clear m1; go_loud (have b0 : w1.cell? ⟨wr.heap.size, 1, none⟩ = some (.int .u64 v.x) := ((B3.out _ _).keep u1 (by simp; omega)).cell 1); go_loud (have b1 : w1.cell? ⟨wr.heap.size, 2, none⟩ = some (.int .u64 v.v) := ((B3.out _ _).keep u1 (by simp; omega)).cell 2); have B5 : Hid (Blk w1 wr.heap.size 37 #[.int .u8 1, .int .u64 v.x, .int .u64 v.v, .bool false]) := (B3.out _ _).keep u1 (by simp; omega); have B6 : Hid (Blk w1 (wr.heap.size + 1) 56 #[.int .i64 s, .int .i64 k, .int .i64 e]) := (B4.out _ _).keep u1 (by simp; omega); clear u1; have V9 : Hid _ := (V8.out _ _ _ _).putF (q := { q with n := e }) rfl M1.out U1.out)
                    | (at_mapUpdate; refine wpList_put rfl (.tmp 122) (.tmp 124) (.tmp 126) 69 rfl Ybaz.underlying69 key35 (w.heap.size + 2) _ V9.out.mL v.x (.int .u64 v.v) rfl rfl rfl ?_; intro w2 m2 u2; go_loud (have d0 : w2.cell? ⟨wr.heap.size, 2, none⟩ = some (.int .u64 v.v) := (Blk.keep B5.out u2 (by simp; omega)).cell 2); go_loud (have d1 : w2.cell? ⟨wr.heap.size + 1, 0, none⟩ = some (.int .i64 s) := (Blk.keep B6.out u2 (by simp; omega)).cell 0); go_loud (have d2 : w2.cell? ⟨wr.heap.size + 1, 1, none⟩ = some (.int .i64 k) := (Blk.keep B6.out u2 (by simp; omega)).cell 1); go_loud (have d3 : w2.cell? ⟨wr.heap.size + 1, 2, none⟩ = some (.int .i64 e) := (Blk.keep B6.out u2 (by simp; omega)).cell 2); have M2 : Hid _ := m2; have U2 : Hid _ := u2; clear m2 u2; have V7 : Hid _ := V9.out.putL M2.out U2.out)
                    | (at_mapUpdate; refine wpList_put rfl (.tmp 127) (.tmp 129) (.tmp 131) 74 rfl Ybaz.underlying74 key35 (w.heap.size + 1) _ V7.out.mF v.v (.agg #[.int .i64 s, .int .i64 k, .int .i64 e, .int .i64 (-1)]) rfl rfl rfl ?_; intro w3 m3 u3; have M3 : Hid _ := m3; have U3 : Hid _ := u3; clear m3 u3))
                  exact ⟨⟨e + 1, _, _, by omega, by go_num, V7.out.putF (q := ⟨s, k, e, -1⟩) rfl M3.out U3.out, W5.out, X5.out⟩, by simp [intOf] <;> omega⟩
            · have he2 : e = t.evs.length := by omega
              subst he2
              go_wp2_with fail
              exact ⟨⟨k + 1, F, L, _, by omega, by go_num, V4.out, W4.out.nextTxn L3.out T3.out, X4.out.nextTxn L3.out T3.out⟩, by simp [intOf] <;> omega⟩
        · have hk2 : k = l.length := by omega
          subst hk2
          go_wp2_with fail
          exact ⟨⟨s + 1, F, L, _, by omega, by go_num, V2.out, W2.out.nextSes L3.out, X2.out.nextSes L3.out⟩, by simp [intOf] <;> omega⟩
    · have hs2 : s = hs.length := by omega
      have WW : Hid (WF hs F) := by
        have := W1.out
        rw [hs2] at this
        exact this.final
      have X9 : Hid (G1 hs hs.length 0 0) := by have := X1.out; rw [hs2] at this; exact this
      have NB : Hid (s = hs.length) := hs2
      have bx := V1.out.box
      clear hs2 X1
      go_wp2_with fail
      clear bx
      go_loopw [138] (fun t138 wr => ∃ (s : Nat), s ≤ hs.length ∧ t138 = .int .i64 s ∧ VM w wr R.top hs.length cap F L ∧ G2 hs s 0 0) (fun u _ => hs.length - (intOf u).toNat)
      case atStart => exact ⟨0, by omega, rfl, V1.out, G2.start⟩
      case round =>
        obtain ⟨s', hs1', rfl, h2, h4⟩ := hrel
        have X1 : Hid _ := h2
        have Y1 : Hid (G2 hs s' 0 0) := h4
        clear h2 h4
        by_cases hlt4 : s' < hs.length
        · obtain ⟨l, hl3⟩ : ∃ l, hs[s']? = some l := ⟨_, List.getElem?_eq_getElem hlt4⟩
          have L3 : Hid _ := hl3
          obtain ⟨o, c1, c2⟩ := (H'.out.below X1.out.bel).base.ses s' l hl3
          have C2 : Hid _ := c2
          have hll := B'.out.small2 l (List.mem_of_getElem? hl3)
          clear c2 hl3
          go_wp2_with fail
          clear c1
          go_loopw [145] (fun t145 wr => ∃ (k : Nat), k ≤ l.length ∧ t145 = .int .i64 k ∧ VM w wr R.top hs.length cap F L ∧ G2 hs s' k 0) (fun u _ => l.length - (intOf u).toNat)
          case atStart => exact ⟨0, by omega, rfl, X1.out, Y1.out⟩
          case round =>
            obtain ⟨k, hk1, rfl, h2, h4⟩ := hrel
            have X2 : Hid _ := h2
            have Y2 : Hid (G2 hs s' k 0) := h4
            clear h2 h4
            by_cases hlt5 : k < l.length
            · obtain ⟨t, ht⟩ : ∃ t, l[k]? = some t := ⟨_, List.getElem?_eq_getElem hlt5⟩
              have T3 : Hid _ := ht
              obtain ⟨o2, c3, c4⟩ := (H'.out.below X2.out.bel).base.evs s' l k t L3.out ht
              have c5 := (H'.out.below X2.out.bel).base.com s' l k t L3.out ht
              have ho : o = some ⟨R.ses s', 0, none⟩ := C2.out (by intro h; rw [h] at hlt5; simp at hlt5)
              subst ho
              have C4 : Hid _ := c4
              have htl := B'.out.small3 l (List.mem_of_getElem? L3.out) t (List.mem_of_getElem? ht)
              clear c4 ht
              go_wp2_with fail
              clear c3 c5
              go_loopw [153] (fun t153 wr => ∃ (e : Nat), e ≤ t.evs.length ∧ t153 = .int .i64 e ∧ VM w wr R.top hs.length cap F L ∧ G2 hs s' k e) (fun u _ => t.evs.length - (intOf u).toNat)
              case atStart => exact ⟨0, by omega, rfl, X2.out.keep (Upd.alloc [] _ _) (by simp), Y2.out⟩
              case round =>
                obtain ⟨e, he1, rfl, h2, h4⟩ := hrel
                have X3 : Hid _ := h2
                have Y3 : Hid (G2 hs s' k e) := h4
                clear h2 h4
                by_cases hlt6 : e < t.evs.length
                · obtain ⟨v, hv⟩ : ∃ v, t.evs[e]? = some v := ⟨_, List.getElem?_eq_getElem hlt6⟩
                  have ho2 : o2 = some ⟨R.evs s' k, 0, none⟩ := C4.out (by intro h; rw [h] at hlt6; simp at hlt6)
                  subst ho2
                  have HW := H'.out.below X3.out.bel
                  have a0 := HW.ev s' l k t e v 0 _ L3.out T3.out hv rfl
                  have a1 := HW.ev s' l k t e v 1 _ L3.out T3.out hv rfl
                  have a2 := HW.ev s' l k t e v 2 _ L3.out T3.out hv rfl
                  have a3 := HW.ev s' l k t e v 3 _ L3.out T3.out hv rfl
                  simp only [Nat.add_zero] at a0
                  have hat : At hs s' k e v := ⟨l, t, L3.out, T3.out, hv⟩
                  have hkd := (X9.out _ _ _ _ hat (bef_all hat)).1
                  have hs90 : s' < 90 := by omega
                  have hk90 : k < 90 := by omega
                  have he90 : e < 90 := by omega
                  have hz4 := X3.out.size
                  clear HW hv
                  rcases hkd with hk | hk
                  · rw [hk] at a0
                    cases hi : v.i with
                    | true =>
                      have Y5 : Hid (G2 hs s' k (e + 1)) := Y3.out.step hat (fun _ h => by rw [hi] at h; cases h)
                      rw [hi] at a3
                      clear hi hat hk
                      go_wp2_with fail
                      exact ⟨⟨e + 1, by omega, by go_num, X3.out.keep (Upd.alloc [] _ _) (by simp), Y5.out⟩, by simp [intOf] <;> omega⟩
                    | false =>
                      rw [hi] at a3
                      cases hFv : F v.v with
                      | none =>
                        as_aux_lemma =>
                        have NOK : Hid (¬ HOk hs) := fun O => by
                          obtain ⟨q, x, g1, _⟩ := WW.out.read O hat hk hi
                          rw [hFv] at g1; cases g1
                        have FQ : Hid (F v.v = none) := hFv
                        clear hi hat hk hFv
                        have X8 : Hid (∀ A, VM w (wr.alloc A) R.top hs.length cap F L) := fun A => X3.out.keep (Upd.alloc [] _ _) (by simp)
                        go_upto_region 43 with (at_lookup; refine wpList_look2 rfl (.tmp 166) (.tmp 168) 74 rfl Ybaz.underlying74 key35 (w.heap.size + 1) _ (X8.out _).mF v.v zero114 rfl rfl (.agg #[.int .i64 0, .int .i64 0, .int .i64 0, .int .i64 0]) false (by simp only [FQ.out]; rfl) (by simp only [FQ.out]; rfl) ?_)
                        go_big_quiet (fail)
                        clear a0 a1 a2 a3
                        obtain ⟨b23, hb23⟩ : ∃ b, b = wr.heap.size := ⟨_, rfl⟩
                        obtain ⟨W7, hW7⟩ : ∃ z : World, z = ((wr.alloc (.cells #[.int .u8 0, .int .u64 v.x, .int .u64 v.v, .bool false] 37)).alloc (.cells #[.int .i64 0, .int .i64 0, .int .i64 0, .int .i64 0] 114)).drewN nq := ⟨_, rfl⟩
                        have U7 : Hid (Upd [] wr W7 ∧ Blk W7 b23 37 #[.int .u8 0, .int .u64 v.x, .int .u64 v.v, .bool false]) := by
                          rw [hW7, hb23]
                          exact ⟨((Upd.alloc [] _ _).trans (Upd.alloc [] _ _) (by simp)).trans (Upd.drewN [] _ _) (by simp), Blk.keep (Blk.keep (Blk.new _ _ _) (Upd.alloc [] _ _) (by simp)) (Upd.drewN [] _ _) (by simp)⟩
                        rw [← hW7, ← hb23]
                        clear hW7 hb23
                        have BW7 : Hid (Below w.heap.size w W7) := X3.out.bel.trans (U7.out.1.below X3.out.bel.size (by simp))
                        have r1 : W7.cell? ⟨b23, 1, none⟩ = some (.int .u64 v.x) := U7.out.2.cell 1
                        have r2 : W7.cell? ⟨b23, 2, none⟩ = some (.int .u64 v.v) := U7.out.2.cell 2
                        have HR := World.block_lt_of_cell? _ _ r1
                        have BN := Blk.new W7 #[.iface 35 (.int .u64 (v.x : Int)), .iface 35 (.int .u64 (v.v : Int)), .iface 35 (.int .u64 (v.x : Int))] 20
                        have hcon : Hid _ := errf3 W7.heap.size (v.x : Int) (v.v : Int) (v.x : Int) (W7.alloc (.cells #[.iface 35 (.int .u64 (v.x : Int)), .iface 35 (.int .u64 (v.v : Int)), .iface 35 (.int .u64 (v.x : Int))] 20)) (BN.cell 0) (BN.cell 1) (BN.cell 2)
                        clear BN
                        go_wp2_with fail
                        refine Calls.mono hcon.out ?_
                        rintro e' w' ⟨p9, rfl, U9⟩
                        have UU : Hid (Upd [] W7 w') := (Upd.alloc [] _ _).trans U9 (by simp)
                        clear U9
                        go_wp2_with fail
                        go_ret2
                        refine .inr ⟨_, _, rfl, BW7.out.trans (Upd.below (S := []) (UU.out.trans ?_ (T := []) (by simp)) BW7.out.size (by simp)), NOK.out⟩
                        repeat (first | exact Upd.refl _ _ | exact Upd.alloc _ _ _ | exact Upd.drew _ _ | (refine Upd.trans ?_ (Upd.drew [] _) (by simp)) | (refine Upd.trans ?_ (Upd.alloc [] _ _) (by simp)))
                      | some q =>
                      obtain ⟨x, g2, g3, g4, _⟩ := WW.out.fwd _ _ hFv
                      have NOK : Hid (¬ x.x = v.x → ¬ HOk hs) := fun g5 O => by
                        obtain ⟨q', x', r1, r2, r3, r4, r5⟩ := WW.out.read O hat hk hi
                        rw [hFv] at r1; injection r1 with r1; subst r1
                        have := r2.same g2
                        subst this
                        exact g5 r5
                      have Y5 : Hid (x.x = v.x → G2 hs s' k (e + 1)) := fun g5 => Y3.out.step hat (fun _ _ => ⟨_, _, _, x, g2, g3, g4, g5⟩)
                      obtain ⟨l9, t9, y1, y2, y3⟩ := g2
                      have FQ : Hid (F v.v = some q) := hFv
                      have hqs : q.s < 1000 := by have := (List.getElem?_eq_some_iff.mp y1).1; omega
                      have Y1' : Hid (hs[q.s]? = some l9) := y1
                      have Y2' : Hid (l9[q.k]? = some t9) := y2
                      have Y3' : Hid (t9.evs[q.e]? = some x) := y3
                      clear hi hat hk g3 g4 y1 y2 y3 hFv
                      have X4 : Hid (∀ A, VM w (wr.alloc A) R.top hs.length cap F L) := fun A => X3.out.keep (Upd.alloc [] _ _) (by simp)
                      go_upto_region 43 with (at_lookup; refine wpList_look2 rfl (.tmp 166) (.tmp 168) 74 rfl Ybaz.underlying74 key35 (w.heap.size + 1) _ (X4.out _).mF v.v zero114 rfl rfl (.agg #[.int .i64 q.s, .int .i64 q.k, .int .i64 q.e, .int .i64 q.n]) true (by simp only [FQ.out]; rfl) (by simp only [FQ.out]; rfl) ?_)
                      clear a0 a1 a2 a3
                      obtain ⟨b23, hb23⟩ : ∃ b, b = wr.heap.size := ⟨_, rfl⟩
                      obtain ⟨Wn, hWn⟩ : ∃ z : World, z = (wr.alloc (.cells #[.int .u8 0, .int .u64 v.x, .int .u64 v.v, .bool false] 37)).alloc (.cells #[.int .i64 q.s, .int .i64 q.k, .int .i64 q.e, .int .i64 q.n] 114) := ⟨_, rfl⟩
                      have XN : VM w Wn R.top hs.length cap F L := by rw [hWn]; exact (X4.out _).keep (Upd.alloc [] _ _) (by simp)
                      have UN : Hid (Upd [] wr Wn ∧ Blk Wn b23 37 #[.int .u8 0, .int .u64 v.x, .int .u64 v.v, .bool false] ∧ Blk Wn (b23 + 1) 114 #[.int .i64 q.s, .int .i64 q.k, .int .i64 q.e, .int .i64 q.n]) := by
                        have k1 := Blk.new (wr.alloc (.cells #[.int .u8 0, .int .u64 v.x, .int .u64 v.v, .bool false] 37)) #[.int .i64 q.s, .int .i64 q.k, .int .i64 q.e, .int .i64 q.n] 114
                        rw [hWn, hb23]
                        exact ⟨(Upd.alloc [] _ _).trans (Upd.alloc [] _ _) (by simp), Blk.keep (Blk.new _ _ _) (Upd.alloc [] _ _) (by simp), by simpa using k1⟩
                      rw [← hWn, ← hb23]
                      have n0 : Wn.cell? ⟨b23, 1, none⟩ = some (.int .u64 v.x) := UN.out.2.1.cell 1
                      have m0 : Wn.cell? ⟨b23 + 1, 0, none⟩ = some (.int .i64 q.s) := UN.out.2.2.cell 0
                      have m1 : Wn.cell? ⟨b23 + 1, 1, none⟩ = some (.int .i64 q.k) := UN.out.2.2.cell 1
                      have m2 : Wn.cell? ⟨b23 + 1, 2, none⟩ = some (.int .i64 q.e) := UN.out.2.2.cell 2
                      have bx := XN.box
                      have XNH : Hid _ := XN
                      have hcon : Hid (Calls Ybaz.prog 25 #[.agg #[.slice (some ⟨R.top, 0, none⟩) hs.length cap], .agg #[.int .i64 q.s, .int .i64 q.k, .int .i64 q.e]] Wn.drew fun r w' => r = .returned (.agg #[.int .u8 x.k, .int .u64 x.x, .int .u64 x.v, .bool x.i]) ∧ Below Wn.heap.size Wn w') := by
                        have hm9 := B'.out.small2 l9 (List.mem_of_getElem? Y1'.out)
                        have hm8 := B'.out.small3 l9 (List.mem_of_getElem? Y1'.out) t9 (List.mem_of_getElem? Y2'.out)
                        have := event25 Wn.drew R hs ((H'.out.below XN.bel).keep (fun b j v h => h)) cap q.s q.k q.e l9 t9 x Y1'.out Y2'.out Y3'.out (by omega) (by omega) (by omega)
                        exact this.mono (fun r w' h => ⟨h.1, ⟨h.2.os, h.2.tape, h.2.output, h.2.size, h.2.block⟩⟩)
                      have hfld := field37_1
                      have lt1 : b23 < Wn.heap.size := World.block_lt_of_cell? _ _ n0
                      clear hWn hb23 XN
                      go_cut [183] (fun t183 wx => t183 = .bool (((x.x : Nat) : Int) != ((v.x : Nat) : Int)) ∧ Upd [] Wn wx)
                      case first =>
                        as_aux_lemma =>
                        go_region_with (go_at_call 25; refine hcon.out.mono ?_; rintro r w' ⟨rfl, hb⟩; go_loud (have f0 : w'.cell? ⟨b23, 1, none⟩ = some (.int .u64 v.x) := (hb.cell lt1).trans n0); have HB : Hid _ := hb; clear hb)
                        all_goals go_wp2_with fail
                        all_goals go_meet
                        all_goals exact ⟨rfl, Upd.of_below HB.out rfl⟩
                      case rest =>
                        obtain ⟨rfl, uc⟩ := hcut
                        obtain ⟨W7, hW7⟩ : ∃ z : World, z = wc := ⟨_, rfl⟩
                        subst hW7
                        have U7 : Hid (Upd [] wr W7 ∧ Blk W7 b23 37 #[.int .u8 0, .int .u64 v.x, .int .u64 v.v, .bool false]) := ⟨UN.out.1.trans uc (by simp), Blk.keep UN.out.2.1 uc (by simp)⟩
                        have X7 : Hid (VM w W7 R.top hs.length cap F L) := XNH.out.keep uc (by simp)
                        clear uc n0 m0 m1 m2 bx hcon
                        by_cases g5 : x.x = v.x
                        · as_aux_lemma =>
                          have nx : (((x.x : Nat) : Int) != ((v.x : Nat) : Int)) = false := by simp; omega
                          rw [nx]
                          go_wp2_with fail
                          exact ⟨⟨e + 1, by omega, by go_num, X7.out, Y5.out g5⟩, by simp [intOf] <;> omega⟩
                        · as_aux_lemma =>
                          have nx : (((x.x : Nat) : Int) != ((v.x : Nat) : Int)) = true := by simp; omega
                          rw [nx]
                          have NOK := (show Hid (¬ HOk hs) from NOK.out g5)
                          clear nx g5
                          have BW7 : Hid (Below w.heap.size w W7) := X3.out.bel.trans (U7.out.1.below X3.out.bel.size (by simp))
                          have r1 : W7.cell? ⟨b23, 1, none⟩ = some (.int .u64 v.x) := U7.out.2.cell 1
                          have r2 : W7.cell? ⟨b23, 2, none⟩ = some (.int .u64 v.v) := U7.out.2.cell 2
                          have HR := World.block_lt_of_cell? _ _ r1
                          have BN := Blk.new W7 #[.iface 35 (.int .u64 (v.x : Int)), .iface 35 (.int .u64 (v.v : Int)), .iface 35 (.int .u64 (v.x : Int))] 20
                          have hcon : Hid _ := errf3 W7.heap.size (v.x : Int) (v.v : Int) (v.x : Int) (W7.alloc (.cells #[.iface 35 (.int .u64 (v.x : Int)), .iface 35 (.int .u64 (v.v : Int)), .iface 35 (.int .u64 (v.x : Int))] 20)) (BN.cell 0) (BN.cell 1) (BN.cell 2)
                          clear BN
                          go_wp2_with fail
                          refine Calls.mono hcon.out ?_
                          rintro e' w' ⟨p9, rfl, U9⟩
                          have UU : Hid (Upd [] W7 w') := (Upd.alloc [] _ _).trans U9 (by simp)
                          clear U9
                          go_wp2_with fail
                          go_ret2
                          refine .inr ⟨_, _, rfl, BW7.out.trans (Upd.below (S := []) (UU.out.trans ?_ (T := []) (by simp)) BW7.out.size (by simp)), NOK.out⟩
                          repeat (first | exact Upd.refl _ _ | exact Upd.alloc _ _ _ | exact Upd.drew _ _ | (refine Upd.trans ?_ (Upd.drew [] _) (by simp)) | (refine Upd.trans ?_ (Upd.alloc [] _ _) (by simp)))
                  · rw [hk] at a0
                    have Y5 : Hid (G2 hs s' k (e + 1)) := Y3.out.step hat (fun h => by omega)
                    clear hat hk
                    go_wp2_with fail
                    exact ⟨⟨e + 1, by omega, by go_num, X3.out.keep (Upd.alloc [] _ _) (by simp), Y5.out⟩, by simp [intOf] <;> omega⟩
                · have he2 : e = t.evs.length := by omega
                  subst he2
                  go_wp2_with fail
                  exact ⟨⟨k + 1, by omega, by go_num, X3.out, Y3.out.nextTxn L3.out T3.out⟩, by simp [intOf] <;> omega⟩
            · have hk2 : k = l.length := by omega
              subst hk2
              go_wp2_with fail
              exact ⟨⟨s' + 1, by omega, by go_num, X2.out, Y2.out.nextSes L3.out⟩, by simp [intOf] <;> omega⟩
        · have hs2 : s' = hs.length := by omega
          subst hs2
          go_wp2_with fail
          go_ret2
          exact .inl ⟨_, F, rfl, X1.out.mF, by omega, X1.out.bel, WW.out, HOk.of B'.out X9.out WW.out Y1.out⟩
end Go.Proofs.YbulkctquGreatFmt

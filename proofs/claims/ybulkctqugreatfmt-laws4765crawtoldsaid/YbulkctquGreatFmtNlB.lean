/-
  The history of no sessions (nil): newSessionPolygraph.
-/
import Derived.Test.YbulkctquGreatFmtNlA
import Derived.Test.YbulkctquGreatFmtNspT
namespace Go.Proofs.YbulkctquGreatFmt
open Go.ChangeShapes Go.WideShapes Go.ChangeAt Go.RowKit Go.Ord
set_option linter.unusedVariables false

theorem gr_new {x1 x2 : World} {bN bF d : Nat} (hd : d = x1.heap.size) (e2 : x2 = x1.alloc (.cells #[.slice (some ⟨bN, 0, none⟩) 0 0, .slice (some ⟨bF, 0, none⟩) 0 0, .slice none 0 0, .slice none 0 0, .slice none 0 0, .slice none 0 0, .slice none 0 0] 93)) : Gr x2 d 2 (g00 bN bF 0) [] [] := by
  have b2 := Blk.new x1 #[.slice (some ⟨bN, 0, none⟩) 0 0, .slice (some ⟨bF, 0, none⟩) 0 0, .slice none 0 0, .slice none 0 0, .slice none 0 0, .slice none 0 0, .slice none 0 0] 93
  rw [← e2, ← hd] at b2
  refine ⟨b2.cell 2, b2.cell 3, b2.free 2, b2.free 3, Sl.empty _ _ _, Sl.empty _ _ _, rfl, fun i s f r hs => by simp [g00] at hs, by simp [g00, GG.foot], ?_⟩
  intro j v hj
  simp only [g00, kc0] at hj
  split at hj
  · rename_i c; subst c; injection hj with hj; subst hj; exact ⟨by decide, by decide, b2.cell 0, b2.free 0⟩
  · split at hj
    · rename_i c; subst c; injection hj with hj; subst hj; exact ⟨by decide, by decide, b2.cell 1, b2.free 1⟩
    · split at hj
      · rename_i c; subst c; injection hj with hj; subst hj; exact ⟨by decide, by decide, b2.cell 4, b2.free 4⟩
      · split at hj
        · rename_i c; subst c; injection hj with hj; subst hj; exact ⟨by decide, by decide, b2.cell 5, b2.free 5⟩
        · split at hj
          · rename_i c; subst c; injection hj with hj; subst hj; exact ⟨by decide, by decide, b2.cell 6, b2.free 6⟩
          · cases hj
theorem nop_nil (F : Nat → Option Wr) {ows : List (List Nat)} (ow : OWF [] [] [] 0 ows) : NP [] F [] [] (fun _ => none) [] [] [] [] [] ows (overG (initG [] []) [] ows) (overJ (initJ [] []) [] ows) := by
  refine ⟨rfl, by simp, ?_, ⟨fun p x h => by simp at h, fun x p h => by simp at h⟩, ⟨_, _, 0, [], [], EI.start [] F [] [] (fun _ => none), GA.start rfl, rfl, rfl, by simp [wt]⟩, fun j i h => by simp at h, ow⟩
  intro i j a b ra rb _ h
  simp at h
set_option maxHeartbeats 16000000 in
set_option maxRecDepth 100000 in
theorem nsp14N (w : World) (b : Nat) (F : Nat → Option Wr) : Calls Ybaz.prog 14 #[.agg #[.slice none 0 0], .map (some b)] w (NspPostT w [] F) := by
  have hbs1 := bs122
  have hbs2 := bs123
  go_enter Ybaz.func14, Ybaz.ntmps14
  go_wp2_with fail
  obtain ⟨W3, hW3⟩ : ∃ z : World, z = ((w.alloc (.cells #[.slice none 0 0] 29)).alloc (.cells #[.slice none 0 0] 122)).alloc (.cells #[.slice none 0 0] 123) := ⟨_, rfl⟩
  have U3 : Hid (Upd [] w W3) := by show Upd _ _ _; rw [hW3]; exact ((Upd.alloc [] _ _).trans (Upd.alloc [] _ _) (by simp)).trans (Upd.alloc [] _ _) (by simp)
  have a0 : W3.cell? ⟨w.heap.size, 0, none⟩ = some (.slice none 0 0) := by rw [hW3]; exact (Upd.alloc [] _ _).cell ((Upd.alloc [] _ _).cell ((Blk.new w #[.slice none 0 0] 29).cell 0) (by simp)) (by simp)
  have a1 : W3.cell? ⟨w.heap.size + 1, 0, none⟩ = some (.slice none 0 0) := by
    have q := (Blk.new (w.alloc (.cells #[.slice none 0 0] 29)) #[.slice none 0 0] 122).cell 0
    simp only [World.size_alloc] at q
    rw [hW3]; exact (Upd.alloc [] _ _).cell q (by simp)
  have a2 : W3.cell? ⟨w.heap.size + 2, 0, none⟩ = some (.slice none 0 0) := by
    have q := (Blk.new ((w.alloc (.cells #[.slice none 0 0] 29)).alloc (.cells #[.slice none 0 0] 122)) #[.slice none 0 0] 123).cell 0
    simp only [World.size_alloc] at q
    rw [hW3]; exact q
  have Z3 : Hid (W3.heap.size = w.heap.size + 3) := by show _ = _; rw [hW3]; simp
  rw [← hW3]
  clear hW3
  rw [show w.heap.size + 1 + 1 = w.heap.size + 2 from rfl]
  go_loopw [58] (fun t58 wr => t58 = .int .i64 0 ∧ wr = W3) (fun _ _ => 0)
  case atStart => exact ⟨rfl, rfl⟩
  case round =>
    obtain ⟨rfl, rfl⟩ := hrel
    go_wp2_with fail
    refine Calls.mono (sort0 wr) ?_
    rintro e w1 ⟨rfl, rfl⟩
    have hm : ∀ W : World, (Instr.makeSlice 83 (.int .i64 0) (.int .i64 0)).run Ybaz.prog W = .ok (.slice (some ⟨W.heap.size, 0, none⟩) 0 0) (W.alloc (.cells #[] 3)) := fun W => mkInts.made 0 0 (Nat.le_refl _) (by omega) (by decide) W
    go_wp2_with fail
    clear hm
    obtain ⟨W5, hW5⟩ : ∃ z : World, z = w1.alloc (.cells #[] 3) := ⟨_, rfl⟩
    obtain ⟨bF, hbF⟩ : ∃ z, z = w1.heap.size := ⟨_, rfl⟩
    have U5 : Upd [] w1 W5 := by rw [hW5]; exact Upd.alloc _ _ _
    have F5 : Hid (MarksAt bF 0 [] W5) := by
      have q := MarksAt.made w1 0 (by omega)
      rw [← hbF] at q
      rw [hW5]
      exact q
    have a15 : W5.cell? ⟨w.heap.size + 1, 0, none⟩ = some (.slice none 0 0) := U5.cell a1 (by simp)
    have UH5 : Hid (Upd [] w W5) := U3.out.trans U5 (by simp)
    have A05 : Hid (W5.cell? ⟨w.heap.size, 0, none⟩ = some (.slice none 0 0)) := U5.cell a0 (by simp)
    rw [← hW5, ← hbF]
    have HBF : Hid (w.heap.size + 3 = bF) := by show _ = _; have := Z3.out; omega
    clear hW5 hbF U5 a1 a2
    go_loopw [130] (fun t130 wr => t130 = .int .i64 0 ∧ wr = W5) (fun _ _ => 0)
    case atStart => exact ⟨rfl, rfl⟩
    case round =>
      obtain ⟨rfl, rfl⟩ := hrel
      have HC : Hid _ := stable31 0 (by omega) [] rfl wr bF 0 (w.heap.size + 1) 0 none F5.out a15 (fun h => by omega) (by have := HBF.out; omega)
      go_wp2_with fail
      refine Calls.mono HC.out ?_
      rintro e w2 ⟨rfl, zs, k1, k2, k3, k4⟩
      have hz : zs = [] := by have := k1.length_eq; simp at this; exact this
      subst hz
      have F6 : Hid (MarksAt bF 0 [] w2) := k3
      have U6 : Hid (Upd [] w w2) := UH5.out.trans k4 (fun q hq => .inr (by simp at hq; have := HBF.out; omega))
      have a06 : w2.cell? ⟨w.heap.size, 0, none⟩ = some (.slice none 0 0) := k4.cell (A05.out) (by have := HBF.out; simp; omega)
      have A06 : Hid (w2.cell? ⟨w.heap.size, 0, none⟩ = some (.slice none 0 0)) := a06
      have LF6 : Hid (bF < w2.heap.size) := Sl.lt (show Sl w2 3 1 (some ⟨bF, 0, none⟩) 0 0 [bF] ([].map nI) from k3) bF (by simp)
      clear k1 k2 k3 k4 HC a15 a06
      have hm1 : ∀ W : World, (Instr.makeSlice 43 (.int .i64 0) (.int .i64 0)).run Ybaz.prog W = .ok (.slice (some ⟨W.heap.size, 0, none⟩) 0 0) (W.alloc (.cells #[] 9)) := fun W => mkStr.made 0 0 (Nat.le_refl _) (by omega) (by decide) W
      have hm2 : ∀ W : World, (Instr.makeSlice 80 (.int .i64 0) (.int .i64 0)).run Ybaz.prog W = .ok (.slice (some ⟨W.heap.size, 0, none⟩) 0 0) (W.alloc (.cells #[] 105)) := fun W => mkTxs.made 0 0 (Nat.le_refl _) (by omega) (by decide) W
      have hmm : ∀ W : World, (Instr.makeMap 134 (some (.int .i64 0))).run Ybaz.prog W = .ok (.map (some W.heap.size)) (W.alloc (.map #[] 0)) := fun W => makeMap_hint Ybaz.underlying134 0 W
      go_wp2_with fail
      clear hm1 hm2 hmm
      obtain ⟨bN, hbN⟩ : ∃ z, z = w2.heap.size := ⟨_, rfl⟩
      obtain ⟨x1, e1⟩ : ∃ z : World, z = w2.alloc (.cells #[] 9) := ⟨_, rfl⟩
      obtain ⟨x2, e2⟩ : ∃ z : World, z = x1.alloc (.cells #[.slice (some ⟨bN, 0, none⟩) 0 0, .slice (some ⟨bF, 0, none⟩) 0 0, .slice none 0 0, .slice none 0 0, .slice none 0 0, .slice none 0 0, .slice none 0 0] 93) := ⟨_, rfl⟩
      obtain ⟨x3, e3⟩ : ∃ z : World, z = x2.alloc (.cells #[] 105) := ⟨_, rfl⟩
      obtain ⟨x4, e4⟩ : ∃ z : World, z = x3.alloc (.map #[] 0) := ⟨_, rfl⟩
      have z1 : x1.heap.size = bN + 1 := by rw [e1, hbN]; simp
      have z2 : x2.heap.size = bN + 2 := by rw [e2]; simp [z1]
      have z3 : x3.heap.size = bN + 3 := by rw [e3]; simp [z2]
      have u1 : Upd [] w2 x1 := by rw [e1]; exact Upd.alloc _ _ _
      have u2 : Upd [] x1 x2 := by rw [e2]; exact Upd.alloc _ _ _
      have u3 : Upd [] x2 x3 := by rw [e3]; exact Upd.alloc _ _ _
      have u4 : Upd [] x3 x4 := by rw [e4]; exact Upd.alloc _ _ _
      have u24 : Upd [] x2 x4 := u3.trans u4 (by simp)
      have u04 : Upd [] w2 x4 := (u1.trans u2 (by simp)).trans u24 (by simp)
      have N7 : Hid (NamesAt bN 0 (nmsAt [] [] 0) x4) := by
        have q := Sl.made w2 9 (.string ⟨#[]⟩) 1 0 0 (Nat.le_refl _) (by omega)
        have q1 : NamesAt bN 0 (nmsAt [] [] 0) x1 := by rw [e1, hbN]; exact q
        exact NamesAt.keeps _ _ _ _ _ [] q1 (u2.trans u24 (by simp)) (by simp)
      have T7 : Hid (TxsAt (bN + 2) 0 (txsAt [] [] 0) x4) := by
        have q := Sl.made x2 105 (.agg #[.int .i64 0, .int .i64 0]) 2 0 0 (Nat.le_refl _) (by omega)
        rw [z2] at q
        have q1 : TxsAt (bN + 2) 0 (txsAt [] [] 0) x3 := by rw [e3]; exact q
        exact TxsAt.keeps _ _ _ _ _ [] q1 u4 (by simp)
      have P7 : Hid (Poly (bN + 1) bN bF 0 (g00 bN bF 0) [] [] sg0 [] og0 [] x4) := by
        refine ⟨(gr_new z1.symm e2).keep u24 (by simp) (by simp), Srcs.none _, Objs.none _, rfl, by simp [polyFp, g00, sg0, og0, GG.foot, SG.foot, OG.foot]⟩
      have M7 : Hid (MarksAt bF 0 [] x4) := MarksAt.keeps _ _ _ _ _ [] F6.out u04 (by simp)
      have U7 : Hid (Upd [] w x4) := U6.out.trans u04 (by simp)
      have A07 : Hid (x4.cell? ⟨w.heap.size, 0, none⟩ = some (.slice none 0 0)) := u04.cell A06.out (by simp)
      have B7 : Hid (bF < bN ∧ w.heap.size ≤ bF) := ⟨by have := LF6.out; omega, by have := HBF.out; omega⟩
      have GEN : Hid (w.heap.size ≤ bN) := by have := B7.out; show w.heap.size ≤ bN; omega
      rw [← hbN, ← e1, ← e2, ← e3, ← e4]
      try rw [show bN + 1 + 1 + 1 = bN + 3 from rfl]
      try rw [show bN + 1 + 1 = bN + 2 from rfl]
      clear e1 e2 e3 e4 z1 z2 z3 u1 u2 u3 u4 u24 u04 hbN F6 U6 A06 LF6
      go_loopw [155] (fun t155 wr => t155 = .int .i64 0 ∧ wr = x4) (fun _ _ => 0)
      case atStart => exact ⟨rfl, rfl⟩
      case round =>
        obtain ⟨rfl, hwr⟩ := hrel
        subst hwr
        obtain ⟨w7, hw7⟩ : ∃ z : World, z = wr := ⟨_, rfl⟩
        subst hw7
        have hmm := @run_makeMap Ybaz.prog
        go_wp2_with fail
        clear hmm
        obtain ⟨W8, hW8⟩ : ∃ z : World, z = ((w7.alloc (.map #[] 0)).alloc (.map #[] 0)).alloc (.map #[] 0) := ⟨_, rfl⟩
        have U78 : Upd [] w7 W8 := by rw [hW8]; exact ((Upd.alloc [] _ _).trans (Upd.alloc [] _ _) (by simp)).trans (Upd.alloc [] _ _) (by simp)
        have U78H : Hid (Upd [] w7 W8) := U78
        rw [← hW8]
        clear hW8 U78
        go_loopw [193] (fun t193 wr => t193 = .int .i64 0 ∧ wr = W8) (fun _ _ => 0)
        case atStart => exact ⟨rfl, rfl⟩
        case round =>
          obtain ⟨rfl, hwr⟩ := hrel
          subst hwr
          obtain ⟨w8, hw8⟩ : ∃ z : World, z = wr := ⟨_, rfl⟩
          subst hw8
          have hm : ∀ W : World, (Instr.makeSlice 83 (.int .i64 0) (.int .i64 0)).run Ybaz.prog W = .ok (.slice (some ⟨W.heap.size, 0, none⟩) 0 0) (W.alloc (.cells #[] 3)) := fun W => mkInts.made 0 0 (Nat.le_refl _) (by omega) (by decide) W
          have d4 : w8.cell? ⟨bN + 1, 4, none⟩ = some (.slice none 0 0) := U78H.out.cell (P7.out.cell (j := 4) rfl).1 (by simp)
          go_wp2_with fail
          clear hm d4
          obtain ⟨bA, hbA⟩ : ∃ z, z = w8.heap.size := ⟨_, rfl⟩
          obtain ⟨W9, hW9⟩ : ∃ z : World, z = w8.alloc (.cells #[] 3) := ⟨_, rfl⟩
          have U89 : Hid (Upd [] w8 W9) := by show Upd _ _ _; rw [hW9]; exact Upd.alloc _ _ _
          rw [← hW9]
          rw [← hbA]
          clear hW9 hbA
          go_loopw [418] (fun t418 wr => t418 = .int .i64 0 ∧ wr = W9) (fun _ _ => 0)
          case atStart => exact ⟨rfl, rfl⟩
          case round =>
            obtain ⟨rfl, hwr⟩ := hrel
            subst hwr
            obtain ⟨w9, hw9⟩ : ∃ z : World, z = wr := ⟨_, rfl⟩
            subst hw9
            have hmm := @run_makeMap Ybaz.prog
            have U79 : Upd [] w7 w9 := U78H.out.trans U89.out (by simp)
            have a09 : (w9.alloc (.map #[] 0)).cell? ⟨w.heap.size, 0, none⟩ = some (.slice none 0 0) := (Upd.alloc [] _ _).cell (U79.cell A07.out (by simp)) (by simp)
            have U79H : Hid (Upd [] w7 w9) := U79
            clear U79
            go_wp2_with fail
            clear hmm a09
            obtain ⟨WA, hWA⟩ : ∃ z : World, z = w9.alloc (.map #[] 0) := ⟨_, rfl⟩
            have U7A : Hid (Upd [] w7 WA) := by show Upd _ _ _; rw [hWA]; exact U79H.out.trans (Upd.alloc [] _ _) (by simp)
            rw [← hWA]
            clear hWA
            go_loopw [429] (fun t429 wr => t429 = .int .i64 0 ∧ wr = WA) (fun _ _ => 0)
            case atStart => exact ⟨rfl, rfl⟩
            case round =>
              obtain ⟨rfl, hwr⟩ := hrel
              subst hwr
              have PA : Poly (bN + 1) bN bF 0 (g00 bN bF 0) [] [] sg0 [] og0 [] wr := Poly.keeps _ _ _ _ _ _ _ _ _ _ _ _ _ [] P7.out U7A.out (by simp)
              have K1 : Hid _ := init_any wr (bN + 1) (g00 bN bF 0) [] [] PA.gr (some ⟨bN, 0, none⟩) 0 0 (PA.cell (j := 0) rfl).1 og0 [] (PA.cell (j := 5) rfl).1 PA.ob PA.apartO (by simp) (by omega) (fun o ho => by simp at ho) (by simp) (by simp [wt])
              have PAH : Hid _ := PA
              clear PA
              go_wp2_with fail
              refine Calls.mono K1.out ?_
              rintro e' wB ⟨rfl, g2, r1, r2⟩
              obtain ⟨p1, p2, p3⟩ := PAH.out.grew r1 r2
              have K2 : Hid _ := over39 wB (bN + 1) g2 (initG [] []) (initJ [] []) p1.gr (some ⟨bN, 0, none⟩) 0 0 (p1.cell (j := 0) rfl).1 og0 [] (p1.cell (j := 5) rfl).1 p1.ob p1.apartO sg0 [] (p1.cell (j := 4) rfl).1 p1.sr p1.apartS bA 0 [] rfl (fun k i hk => by simp at hk) (by simp) (by omega) (fun s hs => by simp at hs) (fun o ho => by simp at ho) (by simp) (by simp) (by simp [initG, wt])
              have PBH : Hid _ := p1
              have U2H : Hid _ := p2
              have Q2H : Hid _ := p3
              clear r1 r2 p1 p2 p3 K1
              go_wp2_with fail
              refine Calls.mono K2.out ?_
              rintro e' wC ⟨rfl, g3, ows, ow, r1, r2⟩
              obtain ⟨p1, p2, p3⟩ := PBH.out.grew r1 r2
              have PCH : Hid _ := p1
              have U3H : Hid _ := p2
              have Q3H : Hid _ := p3
              have OWH : Hid _ := ow
              clear r1 r2 p1 p2 p3 K2 ow
              go_wp2_with fail
              go_ret2
              have fp0 : polyFp (bN + 1) (g00 bN bF 0) sg0 og0 = [bN + 1] := by simp [polyFp, g00, sg0, og0, GG.foot, SG.foot, OG.foot]
              have U2 := U2H.out
              rw [fp0] at U2
              have hz := U7A.out.size
              have f2 : ∀ k ∈ polyFp (bN + 1) g2 sg0 og0, k = bN + 1 ∨ wr.heap.size ≤ k := fun k hk => by
                rcases (Q2H.out k hk).1 with h | h
                · rw [fp0] at h; simp at h; exact .inl h
                · exact .inr h
              have f3 : ∀ k ∈ polyFp (bN + 1) g3 sg0 og0, k = bN + 1 ∨ wr.heap.size ≤ k := fun k hk => by
                rcases (Q3H.out k hk).1 with h | h
                · exact f2 k h
                · have := U2.size; exact .inr (by omega)
              have UAC : Upd [bN + 1] wr wC := U2.trans U3H.out (fun k hk => by
                rcases f2 k hk with h | h
                · exact .inl (by simp [h])
                · exact .inr h)
              have U7C : Upd [bN + 1] w7 wC := (U7A.out.mono (by simp)).trans UAC (by simp)
              have hTl := Sl.lt (show Sl w7 105 2 (some ⟨bN + 2, 0, none⟩) 0 0 [bN + 2] ((txsAt [] [] 0).flatMap p2C) from T7.out) (bN + 2) (by simp)
              have hB := B7.out
              have hG := GEN.out
              refine ⟨[], [], fun _ => none, [], [], [], [], [], ows, _, _, bN, bF, g3, sg0, og0, rfl, nop_nil F OWH.out, PCH.out, NamesAt.keeps _ _ _ _ _ [bN + 1] N7.out U7C (by simp), (U7.out.trans U7C (fun q hq => .inr (by simp at hq; omega))).below (Nat.le_refl _) (by simp), hG, fun k hk => ?_, fun hm => ?_, by simp [overG, initG], by simp [overG, initG, wt], by simp, by simp, by simp, by simp, MarksAt.keeps _ _ _ _ _ [bN + 1] M7.out U7C (by simp; omega), TxsAt.keeps _ _ _ _ _ [bN + 1] T7.out U7C (by simp), hB.2, fun hm => ?_, by omega, by omega, fun hm => ?_⟩
              · rcases f3 k hk with h | h
                · omega
                · have := U7.out.size; omega
              · rcases f3 _ hm with h | h
                · omega
                · omega
              · rcases f3 _ hm with h | h
                · omega
                · omega
              · rcases f3 _ hm with h | h
                · omega
                · omega
end Go.Proofs.YbulkctquGreatFmt

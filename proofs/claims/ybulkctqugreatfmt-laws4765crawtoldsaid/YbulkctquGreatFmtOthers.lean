/-
  The graph: precedeOthers.
-/
import Derived.Test.YbulkctquGreatFmtOwn
import Derived.Lib.Walk
import Derived.Deep.LoopGhost
namespace Go.Proofs.YbulkctquGreatFmt
open Go.ChangeShapes Go.WideShapes Go.ChangeAt Go.RowKit Go.Ord
set_option linter.unusedVariables false

def pairs (G : List (List Nat)) (b : Nat) (ts : List Nat) : List (List Nat) := ts.foldl (fun G t => arc (arc G t b) b t) G
def onlyOf (ts us : List Nat) : List Nat := ts.filter (fun t => !decide (t ∈ us))
def bothOf (ts us : List Nat) : List Nat := ts.filter (fun t => decide (t ∈ us))
def othersG (G : List (List Nat)) (ts us : List Nat) : List (List Nat) :=
  pairs (joinG (joinG G (onlyOf ts us) us) (bothOf ts us) (onlyOf us ts)) ((bothOf ts us).headD 0) ((bothOf ts us).drop 1)
def othersJ (J : List Bool) (ts us : List Nat) : List Bool := joinJ (joinJ J (onlyOf ts us) us) (bothOf ts us) (onlyOf us ts)

theorem wt_arc_le (G : List (List Nat)) (t u : Nat) : wt (arc G t u) ≤ wt G + 1 := by
  by_cases h : t < G.length
  · rw [wt_arc G t u h]; exact Nat.le_refl _
  · rw [arc, List.set_eq_of_length_le (by omega)]; omega
theorem arcsFrom_len (t : Nat) (us : List Nat) : ∀ G, (arcsFrom G t us).length = G.length := by
  induction us with
  | nil => intro G; rfl
  | cons u us ih => intro G; simp only [arcsFrom, List.foldl_cons] at ih ⊢; rw [ih, arc_len]
theorem arcsTo_len (u : Nat) (ts : List Nat) : ∀ G, (arcsTo G ts u).length = G.length := by
  induction ts with
  | nil => intro G; rfl
  | cons t ts ih => intro G; simp only [arcsTo, List.foldl_cons] at ih ⊢; rw [ih, arc_len]
theorem arcsAll_len (us ts : List Nat) : ∀ G, (arcsAll G ts us).length = G.length := by
  induction ts with
  | nil => intro G; rfl
  | cons t ts ih => intro G; simp only [arcsAll, List.foldl_cons] at ih ⊢; rw [ih, arcsFrom_len]
theorem arcsFrom_wt (t : Nat) (us : List Nat) : ∀ G, wt (arcsFrom G t us) ≤ wt G + us.length := by
  induction us with
  | nil => intro G; exact Nat.le_refl _
  | cons u us ih => intro G; simp only [arcsFrom, List.foldl_cons, List.length_cons] at ih ⊢; have := ih (arc G t u); have := wt_arc_le G t u; omega
theorem arcsTo_wt (u : Nat) (ts : List Nat) : ∀ G, wt (arcsTo G ts u) ≤ wt G + ts.length := by
  induction ts with
  | nil => intro G; exact Nat.le_refl _
  | cons t ts ih => intro G; simp only [arcsTo, List.foldl_cons, List.length_cons] at ih ⊢; have := ih (arc G t u); have := wt_arc_le G t u; omega
theorem arcsAll_wt (us ts : List Nat) : ∀ G, wt (arcsAll G ts us) ≤ wt G + ts.length * us.length := by
  induction ts with
  | nil => intro G; simp [arcsAll]
  | cons t ts ih =>
    intro G
    simp only [arcsAll, List.foldl_cons, List.length_cons] at ih ⊢
    have h1 := ih (arcsFrom G t us)
    have h2 := arcsFrom_wt t us G
    rw [Nat.succ_mul]; omega
theorem joinG_len (G : List (List Nat)) (ts us : List Nat) : G.length ≤ (joinG G ts us).length ∧ (joinG G ts us).length ≤ G.length + 1 := by
  unfold joinG
  split
  · rw [arcsFrom_len, arcsTo_len]; simp
  · rw [arcsAll_len]; omega
theorem joinG_wt (G : List (List Nat)) (ts us : List Nat) : wt (joinG G ts us) ≤ wt G + (ts.length + 1) * (us.length + 1) := by
  have e : (ts.length + 1) * (us.length + 1) = ts.length * us.length + ts.length + us.length + 1 := by rw [Nat.add_mul, Nat.mul_add, Nat.one_mul]; omega
  unfold joinG
  split
  · have h1 := arcsFrom_wt G.length us (arcsTo (G ++ [[]]) ts G.length)
    have h2 := arcsTo_wt G.length ts (G ++ [[]])
    have h3 : wt (G ++ [[]]) = wt G := by simp [wt]
    omega
  · have := arcsAll_wt us ts G
    omega

/-- A function value that tells whether a number is in a list, in every world that has kept what lay in w. -/
def Tells (w : World) (gf : Nat) (lb : Array Value) (xs us : List Nat) : Prop :=
  ∀ (W : World) (t : Nat), t ∈ xs → Below w.heap.size w W → Calls Ybaz.prog gf (#[.int .i64 t] ++ lb) W fun e w' => e = .returned (.bool (decide (t ∈ us))) ∧ ∃ q, w' = W.drewN q

set_option maxRecDepth 100000 in
theorem others_any (w : World) (d o : Nat) (g : GG) (G : List (List Nat)) (J : List Bool) (h : Gr w d o g G J) (aT aU : Option Addr) (cT cU : Nat) (ts us : List Nat)
    (hT : Apart w d g aT ts.length cT ts) (hU : Apart w d g aU us.length cU us) (hts : ∀ t ∈ ts, t < G.length) (hus : ∀ t ∈ us, t < G.length) (hw : G.length + wt G + 6 * (ts.length + 2) * (us.length + 2) < 100000000)
    (gF gT : Nat) (lF lT : Array Value) (eF : ∀ args w, (callFunc gF args).run Ybaz.prog w = .ok (.enter gF args) w) (eT : ∀ args w, (callFunc gT args).run Ybaz.prog w = .ok (.enter gT args) w) (pF : Tells w gF lF us ts) (pT : Tells w gT lT ts us) :
    Calls Ybaz.prog 59 #[.pointer (some ⟨d, o, none⟩), .slice aT ts.length cT, .slice aU us.length cU, .func (.func gF) #[] lF, .func (.func gT) #[] lT] w fun e w' => e = .returned (.tuple #[]) ∧ ∃ g', Gr w' d o g' (othersG G ts us) (othersJ J ts us) ∧ Grew d w w' g g' := by
  have HG : Hid _ := h
  have HT : Hid _ := hT
  have HU : Hid _ := hU
  have HS : Hid _ := hts
  have HV : Hid _ := hus
  have HW : Hid _ := hw
  have PF : Hid _ := pF
  have PT : Hid _ := pT
  have hb1 : ts.length < 100000000 := by
    have : (ts.length + 2) * 1 ≤ (ts.length + 2) * (us.length + 2) := Nat.mul_le_mul_left _ (by omega)
    rw [Nat.mul_assoc] at hw
    omega
  have hb2 : us.length < 100000000 := by
    have : 1 * (us.length + 2) ≤ (ts.length + 2) * (us.length + 2) := Nat.mul_le_mul_right _ (by omega)
    rw [Nat.mul_assoc] at hw
    omega
  clear h hT hU hts hus hw pF pT
  go_enter Ybaz.func59, Ybaz.ntmps59
  go_wp2_with fail
  go_loopw [10, 11, 21] (fun t10 t11 t21 wr => ∃ (k : Nat) (vA vB : SV) (A B : List Nat), k ≤ ts.length ∧ t21 = .int .i64 k ∧ t10 = .slice vA.a vA.n vA.c ∧ t11 = .slice vB.a vB.n vB.c ∧ Duo w wr 3 3 nI nI vA vB A B ∧ A ++ onlyOf (ts.drop k) us = onlyOf ts us ∧ B ++ bothOf (ts.drop k) us = bothOf ts us) (fun _ _ i _ => ts.length - (intOf i).toNat)
  case atStart => exact ⟨0, ⟨none, 0, 0⟩, ⟨none, 0, 0⟩, [], [], by omega, rfl, rfl, rfl, Duo.empty _ _ _ _ _ _ (Below.refl _ _), by simp, by simp⟩
  case round =>
    obtain ⟨k, vA, vB, A, B, hk, rfl, rfl, rfl, h1, h2, h3⟩ := hrel
    have D1 : Hid _ := h1
    have EA : Hid _ := h2
    have EB : Hid _ := h3
    clear h1 h2 h3
    by_cases hlt : k < ts.length
    · obtain ⟨t, ht⟩ := has_at ts hlt
      obtain ⟨b, rfl, cb⟩ := (HT.out.below D1.out.bel).get (Grew.refl _ _ _) ht
      have HTT : Hid _ := ht
      clear ht
      go_wp2_with fail
      refine (PT.out wr t (List.mem_of_getElem? HTT.out) D1.out.bel).mono ?_
      rintro e w' ⟨rfl, q, rfl⟩
      obtain ⟨fA, sA, nA, fB, sB, nB, dAB⟩ := D1.out.lies
      have SA : Hid _ := sA
      have SB : Hid _ := sB
      have DAB : Hid _ := dAB
      have NA : Hid _ := nA
      have NB : Hid _ := nB
      have hAn : vA.n < 1000000000000 := by
        have e1 := D1.out.fst.len
        have e2 := congrArg List.length EA.out
        have e3 : (onlyOf ts us).length ≤ ts.length := List.length_filter_le _ _
        simp only [List.length_append] at e2
        omega
      have hBn : vB.n < 1000000000000 := by
        have e1 := D1.out.snd.len
        have e2 := congrArg List.length EB.out
        have e3 : (bothOf ts us).length ≤ ts.length := List.length_filter_le _ _
        simp only [List.length_append] at e2
        omega
      clear sA sB dAB nA nB
      go_wp2_with (first
        | (at_builtin; refine wpList_append_one wr _ (Upd.drewN [] _ _) rfl (.tmp 28) (.tmp 30) 83 rfl 3 8 slInts (by decide) vB.a vB.n vB.c fB (B.map nI) rfl SB.out (by simp) _ rfl _ _ rfl (by simp) hBn ?_; intro gX cX w1 sX uX fX; have SX : Hid _ := sX; have UX : Hid _ := uX; have FX : Hid _ := fX; clear sX uX fX)
        | (at_builtin; refine wpList_append_one wr _ (Upd.drewN [] _ _) rfl (.tmp 32) (.tmp 34) 83 rfl 3 8 slInts (by decide) vA.a vA.n vA.c fA (A.map nI) rfl SA.out (by simp) _ rfl _ _ rfl (by simp) hAn ?_; intro gX cX w1 sX uX fX; have SX : Hid _ := sX; have UX : Hid _ := uX; have FX : Hid _ := fX; clear sX uX fX))
      all_goals have ea := EA.out
      all_goals have eb := EB.out
      all_goals rw [drop_at HTT.out] at ea eb
      all_goals rename_i hm
      · have T1 := (D1.out.swap.grow NB.out SA.out NA.out (fun k h1 h2 => DAB.out k h2 h1) (x := t) rfl SX.out UX.out FX.out).swap
        rw [onlyOf, List.filter_cons_of_neg (by simp [hm])] at ea
        rw [bothOf, List.filter_cons_of_pos (by simp [hm])] at eb
        exact ⟨⟨k + 1, _, _, _, _, by omega, by go_num, rfl, rfl, T1, ea, by simpa [bothOf] using eb⟩, by simp [intOf]; omega⟩
      · have T1 := D1.out.grow NA.out SB.out NB.out DAB.out (x := t) rfl SX.out UX.out FX.out
        rw [onlyOf, List.filter_cons_of_pos (by simp [hm])] at ea
        rw [bothOf, List.filter_cons_of_neg (by simp [hm])] at eb
        exact ⟨⟨k + 1, _, _, _, _, by omega, by go_num, rfl, rfl, T1, by simpa [onlyOf] using ea, eb⟩, by simp [intOf]; omega⟩
    · have hk2 : k = ts.length := by omega
      subst hk2
      have ea := EA.out
      have eb := EB.out
      rw [List.drop_length] at ea eb
      simp only [onlyOf, bothOf, List.filter_nil, List.append_nil] at ea eb
      have EA' : Hid (A = onlyOf ts us) := ea
      have EB' : Hid (B = bothOf ts us) := eb
      clear ea eb EA EB
      obtain ⟨wq, hwq⟩ : ∃ x : World, x = wr := ⟨_, rfl⟩
      subst hwq
      go_wp2_with fail
      go_loopw [14, 39] (fun t14 t39 wx => ∃ (k : Nat) (vC : SV) (C : List Nat), k ≤ us.length ∧ t39 = .int .i64 k ∧ t14 = .slice vC.a vC.n vC.c ∧ Own wq wx 3 nI vC C ∧ C ++ onlyOf (us.drop k) ts = onlyOf us ts) (fun _ i _ => us.length - (intOf i).toNat)
      case atStart => exact ⟨0, ⟨none, 0, 0⟩, [], by omega, rfl, rfl, Own.empty _ _ _ _ (Below.refl _ _), by simp⟩
      case round =>
        obtain ⟨k, vC, C, hk, rfl, rfl, h1, h2⟩ := hrel
        have O1 : Hid _ := h1
        have EC : Hid _ := h2
        clear h1 h2
        have BW : Hid (Below w.heap.size w wr) := D1.out.bel.trans (O1.out.bel.mono D1.out.bel.size)
        by_cases hlt : k < us.length
        · obtain ⟨u, hu⟩ := has_at us hlt
          obtain ⟨b, rfl, cb⟩ := (HU.out.below BW.out).get (Grew.refl _ _ _) hu
          have HTT : Hid _ := hu
          clear hu
          go_wp2_with fail
          refine (PF.out wr u (List.mem_of_getElem? HTT.out) BW.out).mono ?_
          rintro e w' ⟨rfl, q, rfl⟩
          obtain ⟨fC, sC, nC⟩ := O1.out.lies
          have SC : Hid _ := sC
          have NC : Hid _ := nC
          have hCn : vC.n < 1000000000000 := by
            have e1 := O1.out.len
            have e2 := congrArg List.length EC.out
            have e3 : (onlyOf us ts).length ≤ us.length := List.length_filter_le _ _
            simp only [List.length_append] at e2
            omega
          clear sC nC
          go_wp2_with (first
            | (at_builtin; refine wpList_append_one wr _ (Upd.drewN [] _ _) rfl (.tmp 47) (.tmp 49) 83 rfl 3 8 slInts (by decide) vC.a vC.n vC.c fC (C.map nI) rfl SC.out (by simp) _ rfl _ _ rfl (by simp) hCn ?_; intro gX cX w1 sX uX fX; have SX : Hid _ := sX; have UX : Hid _ := uX; have FX : Hid _ := fX; clear sX uX fX))
          all_goals have ec := EC.out
          all_goals rw [drop_at HTT.out] at ec
          all_goals rename_i hm
          · have T1 := O1.out.grow NC.out (x := u) rfl SX.out UX.out FX.out
            rw [onlyOf, List.filter_cons_of_pos (by simpa using hm)] at ec
            exact ⟨⟨k + 1, _, _, by omega, by go_num, rfl, T1, by simpa [onlyOf] using ec⟩, by simp [intOf]; omega⟩
          · rw [onlyOf, List.filter_cons_of_neg (by simpa using hm)] at ec
            have T1 : Own wq (wr.drewN q) 3 nI vC C := O1.out.below ⟨rfl, rfl, rfl, Nat.le_refl _, fun _ _ => rfl⟩
            exact ⟨⟨k + 1, _, _, by omega, by go_num, rfl, T1, ec⟩, by simp [intOf]; omega⟩
        · have hk2 : k = us.length := by omega
          subst hk2
          have ec := EC.out
          rw [List.drop_length] at ec
          simp only [onlyOf, List.filter_nil, List.append_nil] at ec
          have EC' : Hid (C = onlyOf us ts) := ec
          clear ec EC
          go_wp2_with fail
          have hA := D1.out.fst
          have hB := D1.out.snd
          have hAl := hA.len
          have hBl := hB.len
          have hCl := O1.out.len
          have mA : ∀ t ∈ A, t ∈ ts := fun t ht => by rw [EA'.out] at ht; exact (List.mem_filter.mp ht).1
          have mB : ∀ t ∈ B, t ∈ ts := fun t ht => by rw [EB'.out] at ht; exact (List.mem_filter.mp ht).1
          have lA : A.length ≤ ts.length := by rw [EA'.out]; exact List.length_filter_le _ _
          have lB : B.length ≤ ts.length := by rw [EB'.out]; exact List.length_filter_le _ _
          have lC : C.length ≤ us.length := by rw [EC'.out]; exact List.length_filter_le _ _
          have b1 : (A.length + 1) * (us.length + 1) ≤ (ts.length + 2) * (us.length + 2) := Nat.mul_le_mul (by omega) (by omega)
          have b2 : (B.length + 1) * (C.length + 1) ≤ (ts.length + 2) * (us.length + 2) := Nat.mul_le_mul (by omega) (by omega)
          have b3 : (ts.length + 2) * 2 ≤ (ts.length + 2) * (us.length + 2) := Nat.mul_le_mul (by omega) (by omega)
          have hw := HW.out
          rw [Nat.mul_assoc] at hw
          have jl := joinG_len G A us
          have jw := joinG_wt G A us
          have gw := HG.out.below BW.out
          have apA : Apart wr d g vA.a A.length vA.c A := (Apart.of_own HG.out hA).below O1.out.bel
          have apB : Apart wr d g vB.a B.length vB.c B := (Apart.of_own HG.out hB).below O1.out.bel
          have apC : Apart wr d g vC.a C.length vC.c C := Apart.of_own (HG.out.below D1.out.bel) O1.out
          have apU := HU.out.below BW.out
          rw [hAl]
          refine (join_any wr d o g G J gw vA.a aU vA.c cU A us apA apU (fun t ht => HS.out t (mA t ht)) (by omega)).mono ?_
          rintro e w1 ⟨rfl, g1, h1, k1⟩
          have apB1 := apB.keep k1
          have apC1 := apC.keep k1
          have H1 : Hid _ := h1
          have K1 : Hid _ := k1
          have XB1 : Hid _ := apB1
          have XC1 : Hid _ := apC1
          have MB : Hid _ := mB
          have GW : Hid _ := gw
          clear h1 k1 apB1 apC1 mA mB gw apA apB apC apU hA hB
          go_wp2_with fail
          refine (join_any w1 d o g1 (joinG G A us) (joinJ J A us) H1.out vB.a vC.a vB.c vC.c B C XB1.out XC1.out (fun t ht => by have := HS.out t (MB.out t ht); omega) (by omega)).mono ?_
          rintro e w2 ⟨rfl, g2, h1, k1⟩
          have jl2 := joinG_len (joinG G A us) B C
          have jw2 := joinG_wt (joinG G A us) B C
          have apB2 := XB1.out.keep k1
          have H2 : Hid _ := h1
          have K2 : Hid _ := k1
          have XB2 : Hid _ := apB2
          clear h1 k1 apB2
          have hg0 : G.length ≤ (joinG (joinG G A us) B C).length := by omega
          have hwz : wt (joinG (joinG G A us) B C) + 2 * (ts.length + 2) < 100000000 := by omega
          generalize hZ : joinG (joinG G A us) B C = Z at *
          have HZ : Hid _ := hZ
          clear hZ jl jl2 jw jw2 b1 b2 b3 hw
          have hfin : ∀ (Y : List (List Nat)), Y = pairs Z (B.headD 0) (B.drop 1) → Y = othersG G ts us := by
            intro Y hY
            rw [hY, othersG, ← EA'.out, ← EB'.out, ← EC'.out, HZ.out]
          have hfinJ : joinJ (joinJ J A us) B C = othersJ J ts us := by
            rw [othersJ, ← EA'.out, ← EB'.out, ← EC'.out]
          have FIN : Hid _ := hfin
          have FINJ : Hid _ := hfinJ
          have BZ := (⟨⟨BW.out.os, BW.out.tape, BW.out.output, BW.out.size, fun k hk _ => BW.out.block k hk⟩, fun k hk => .inl hk, rfl⟩ : Grew d w wr g g)
          have KK : Hid (Grew d w w2 g g2) := (BZ.trans K1.out).trans K2.out
          clear hfin hfinJ BZ
          cases B with
          | nil =>
            simp only [List.length_nil] at hBl
            obtain ⟨f, sb, _, _⟩ := XB2.out.sl
            have hbc := sb.le
            have hba : vB.a = none ∨ ∃ g, vB.a = some ⟨g, 0, none⟩ := by
              rcases sb.lies with ⟨h1, _⟩ | ⟨g, cur, h1, _⟩
              · exact .inl h1
              · exact .inr ⟨g, h1⟩
            clear sb
            rcases hba with hba | ⟨gb, hba⟩
            all_goals rw [hba]
            all_goals clear hba
            all_goals go_wp2_with fail
            all_goals refine wp_loop_once ?_
            all_goals go_wp2_with fail
            all_goals go_end0
            all_goals exact ⟨rfl, g2, by rw [← FIN.out Z rfl, ← FINJ.out]; exact H2.out, KK.out⟩
          | cons b0 rest =>
            obtain ⟨bb, eb, cb0⟩ := XB2.out.get (Grew.refl _ _ _) (k := 0) (x := b0) rfl
            obtain ⟨f, sb, _, _⟩ := XB2.out.sl
            have hbc := sb.le
            rw [eb]
            simp only [List.length_cons] at hbc
            have hbc1 := hbc.1
            have hmin : min 1 ((rest.length : Int) + 1) = 1 := by omega
            have EB9 : Hid _ := eb
            clear sb eb hbc
            cases rest with
            | nil =>
              simp only [List.length_nil] at hmin hbc1
              go_wp2_with fail
              all_goals refine wp_loop_once ?_
              all_goals go_wp2_with fail
              all_goals go_end0
              all_goals exact ⟨rfl, g2, by rw [← FIN.out Z rfl, ← FINJ.out]; exact H2.out, KK.out⟩
            | cons r0 rest =>
              simp only [List.length_cons] at hbc1 lB hBl
              clear hmin
              have hmin : min 1 ((rest.length : Int) + 1 + 1) = 1 := by omega
              have hne : ¬ vB.c = 1 := by omega
              go_wp2_with fail
              go_loopw [66] (fun t66 wx => ∃ (k : Nat) (g3 : GG) (Y : List (List Nat)), k ≤ rest.length + 1 ∧ t66 = .int .i64 k ∧ Gr wx d o g3 Y (joinJ (joinJ J A us) (b0 :: r0 :: rest) C) ∧ Grew d w2 wx g2 g3 ∧ Y.length = Z.length ∧ wt Y ≤ wt Z + 2 * k ∧ pairs Y b0 ((r0 :: rest).drop k) = pairs Z b0 (r0 :: rest)) (fun i _ => rest.length + 1 - (intOf i).toNat)
              case atStart => exact ⟨0, g2, Z, by omega, rfl, H2.out, Grew.refl _ _ _, rfl, by omega, rfl⟩
              case round =>
                obtain ⟨k, g3, Y, hk, rfl, h1, h2, h3, h4, h5⟩ := hrel
                have H3 : Hid _ := h1
                have K3 : Hid _ := h2
                have E3 : Hid _ := h5
                clear h1 h2 h5
                by_cases hlt : k < rest.length + 1
                · obtain ⟨t, ht⟩ := has_at (r0 :: rest) (k := k) (by simpa using hlt)
                  obtain ⟨b2, eb2, cb2⟩ := XB2.out.get K3.out (k := 1 + k) (x := t) (by rw [Nat.add_comm]; simpa using ht)
                  have htm := HS.out t (MB.out t (List.mem_cons_of_mem _ (List.mem_of_getElem? ht)))
                  have hbm := HS.out b0 (MB.out b0 (by simp))
                  have HTT : Hid _ := ht
                  clear ht
                  obtain ⟨b3, eb3, cb3⟩ := XB2.out.get K3.out (k := 0) (x := b0) rfl
                  have e2 := EB9.out.symm.trans eb2
                  have e3 := EB9.out.symm.trans eb3
                  injection e2 with e2
                  injection e2 with e2
                  injection e3 with e3
                  injection e3 with e3
                  subst e2 e3
                  clear eb2 eb3
                  go_wp2_with fail
                  refine (addArc_arc _ d o g3 Y _ H3.out t b0 (by omega) (by omega)).mono ?_
                  rintro e w3 ⟨rfl, g4, h6, k4⟩
                  obtain ⟨b4, eb4, cb4⟩ := XB2.out.get (K3.out.trans k4) (k := 0) (x := b0) rfl
                  have e4 := EB9.out.symm.trans eb4
                  injection e4 with e4
                  injection e4 with e4
                  subst e4
                  have H4 : Hid _ := h6
                  have K4 : Hid _ := k4
                  clear h6 k4 eb4
                  have w4 := wt_arc Y t b0 (by omega)
                  have l4 := arc_len Y t b0
                  go_wp2_with fail
                  refine (addArc_arc _ d o g4 (arc Y t b0) _ H4.out b0 t (by omega) (by omega)).mono ?_
                  rintro e w5 ⟨rfl, g5, h6, k4⟩
                  have H5 : Hid _ := h6
                  have K5 : Hid _ := k4
                  clear h6 k4
                  have w5' := wt_arc (arc Y t b0) b0 t (by omega)
                  have l5 := arc_len (arc Y t b0) b0 t
                  go_wp2_with fail
                  refine ⟨⟨k + 1, g5, _, by omega, by go_num, H5.out, (K3.out.trans K4.out).trans K5.out, by omega, by omega, ?_⟩, by simp [intOf]; omega⟩
                  have := E3.out
                  rw [drop_at HTT.out] at this
                  exact this
                · have hk2 : k = rest.length + 1 := by omega
                  go_wp2_with fail
                  go_end0
                  have e5 := E3.out
                  rw [hk2, List.drop_of_length_le (by simp)] at e5
                  have e6 : Y = pairs Z b0 (r0 :: rest) := e5
                  exact ⟨rfl, g3, by rw [← FIN.out Y e6, ← FINJ.out]; exact H3.out, KK.out.trans K3.out⟩
end Go.Proofs.YbulkctquGreatFmt

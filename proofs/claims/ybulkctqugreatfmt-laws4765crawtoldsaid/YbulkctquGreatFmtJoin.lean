/-
  The graph: addJunction, join, precedeOthers.
-/
import Derived.Test.YbulkctquGreatFmtGraph
namespace Go.Proofs.YbulkctquGreatFmt
open Go.ChangeShapes Go.WideShapes Go.ChangeAt Go.RowKit Go.Ord
set_option linter.unusedVariables false

/-- What turns as a graph at block d grows. -/
structure Grew (d : Nat) (w w' : World) (g g' : GG) : Prop where
  upd : Upd (d :: g.foot) w w'
  foot : ∀ k ∈ g'.foot, k ∈ g.foot ∨ w.heap.size ≤ k
  kc : g'.kc = g.kc
theorem Grew.refl (d : Nat) (w : World) (g : GG) : Grew d w w g g := ⟨Upd.refl _ _, fun k h => .inl h, rfl⟩
theorem Grew.trans {d : Nat} {w w1 w2 : World} {g g1 g2 : GG} (h : Grew d w w1 g g1) (k : Grew d w1 w2 g1 g2) : Grew d w w2 g g2 := by
  refine ⟨h.upd.trans k.upd ?_, ?_, k.kc.trans h.kc⟩
  · intro x hx
    simp only [List.mem_cons] at hx
    rcases hx with rfl | hx
    · exact .inl (by simp)
    · rcases h.foot x hx with h1 | h1
      · exact .inl (by simp [h1])
      · exact .inr h1
  · intro x hx
    rcases k.foot x hx with h1 | h1
    · exact h.foot x h1
    · exact .inr (Nat.le_trans h.upd.size h1)

theorem Gr.setJ {w : World} {d o : Nat} {g : GG} {G : List (List Nat)} {J : List Bool} (h : Gr w d o g G J) {v gJ : Nat} (e : g.aJ = some ⟨gJ, 0, none⟩) (f : g.fJ = [gJ]) (b : Bool) : Gr (w.setCell ⟨gJ, v, none⟩ (.bool b)) d o g G (J.set v b) := by
  have nd := h.nd
  simp only [List.nodup_cons, GG.foot, List.nodup_append, List.mem_append, not_or, f, List.mem_singleton] at nd
  have hd : d ∉ [gJ] := by simpa using nd.1.2.1
  have hS : ∀ k ∈ g.fS, k ∉ [gJ] := by intro k hk hm; simp at hm; subst hm; exact nd.2.2.2 k hk k (.inl rfl) rfl
  have hI : ∀ k ∈ g.fI.flatten, k ∉ [gJ] := by intro k hk hm; simp at hm; subst hm; exact nd.2.2.1.2.2 k rfl k hk rfl
  have U := Upd.store w gJ v (.bool b)
  refine ⟨U.cell h.cS hd, U.cell h.cJ hd, U.free h.lt h.zS hd, U.free h.lt h.zJ hd, h.sS.keep U hS, ?_, h.lI, ?_, h.nd, fun j v hj => ⟨(h.oth j v hj).1, (h.oth j v hj).2.1, U.cell (h.oth j v hj).2.2.1 hd, U.free h.lt (h.oth j v hj).2.2.2 hd⟩⟩
  · have := h.sJ
    rw [e, f] at this
    have := this.store v (.bool b)
    rw [← List.map_set] at this
    rw [e, f]
    exact this
  · intro i s f' r hs hf hr
    obtain ⟨h3, h4⟩ := h.sI i s f' r hs hf hr
    exact ⟨h3, h4.keep U (fun k hk => hI k (List.mem_flatten.mpr ⟨f', List.mem_of_getElem? hf, hk⟩))⟩

theorem addJunction_any (w : World) (d o : Nat) (g : GG) (G : List (List Nat)) (J : List Bool) (h : Gr w d o g G J) (hb : G.length < 1000000000) :
    Calls Ybaz.prog 110 #[.pointer (some ⟨d, o, none⟩)] w fun e w' => e = .returned (.int .i64 G.length) ∧ ∃ g', Gr w' d o g' (G ++ [[]]) (J ++ [true]) ∧ Grew d w w' g g' := by
  have HG : Hid _ := h
  clear h
  go_enter Ybaz.func110, Ybaz.ntmps110
  go_wp2_with fail
  refine (addNode_any w d o g G J HG.out hb).mono ?_
  rintro e w' ⟨rfl, g', h1, h2, h3, h9⟩
  have H9 : Hid (g'.kc = g.kc) := h9
  clear h9
  have cJ := h1.cJ
  rw [List.length_append, List.length_singleton] at cJ
  obtain ⟨gJ, eJ, fJ, gJlt, cR0, zR0⟩ := h1.sJ.has (by simp)
  have hl := h1.sJ.len
  simp at hl
  have cR := (cR0 G.length (by simp))
  rw [show ((J ++ [false]).map Value.bool)[G.length]? = some (.bool false) by rw [List.map_append, List.getElem?_append_right (by simp; omega)]; simp [hl]] at cR
  have zR := zR0 G.length
  rw [eJ] at cJ
  have H1 : Hid _ := h1
  have H2 : Hid _ := h2
  have H3 : Hid _ := h3
  have EJ : Hid _ := eJ
  have FJ : Hid _ := fJ
  clear h1 h2 h3 eJ fJ cR0 zR0
  go_wp2_with fail
  go_ret
  have h4 := H1.out.setJ (v := G.length) EJ.out FJ.out true
  rw [List.set_append_right _ _ (by omega), hl] at h4
  refine ⟨rfl, g', by simpa using h4, ⟨H2.out.trans (Upd.store _ _ _ _) ?_, H3.out, H9.out⟩⟩
  intro k hk
  simp at hk
  subst hk
  rcases H3.out k (by simp [GG.foot, FJ.out]) with h5 | h5
  · exact .inl (by simp [h5])
  · exact .inr h5

/-- One more arc. -/
def arc (G : List (List Nat)) (t u : Nat) : List (List Nat) := G.set t (G.getD t [] ++ [u])
def arcsFrom (G : List (List Nat)) (t : Nat) (us : List Nat) : List (List Nat) := us.foldl (fun G u => arc G t u) G
def arcsTo (G : List (List Nat)) (ts : List Nat) (u : Nat) : List (List Nat) := ts.foldl (fun G t => arc G t u) G
def arcsAll (G : List (List Nat)) (ts us : List Nat) : List (List Nat) := ts.foldl (fun G t => arcsFrom G t us) G
/-- How many arcs there are. -/
def wt (G : List (List Nat)) : Nat := (G.map List.length).sum
theorem arc_len (G : List (List Nat)) (t u : Nat) : (arc G t u).length = G.length := by simp [arc]
theorem wt_set : ∀ (G : List (List Nat)) (t : Nat) (r r' : List Nat), G[t]? = some r → wt (G.set t r') + r.length = wt G + r'.length
  | [], _, _, _, h => by simp at h
  | g :: G, 0, r, r', h => by simp at h; subst h; simp [wt]; omega
  | g :: G, t + 1, r, r', h => by
    simp at h
    have := wt_set G t r r' h
    simp [wt] at this ⊢; omega
theorem wt_arc (G : List (List Nat)) (t u : Nat) (ht : t < G.length) : wt (arc G t u) = wt G + 1 := by
  have := wt_set G t (G.getD t []) (G.getD t [] ++ [u]) (by simp [List.getElem?_eq_getElem ht])
  rw [List.length_append, List.length_singleton] at this
  unfold arc; omega
theorem row_wt : ∀ (G : List (List Nat)) (t : Nat) (r : List Nat), G[t]? = some r → r.length ≤ wt G
  | [], _, _, h => by simp at h
  | g :: G, 0, r, h => by simp at h; subst h; simp [wt]
  | g :: G, t + 1, r, h => by
    simp at h
    have := row_wt G t r h
    simp [wt] at this ⊢; omega

/-- addArc, in the words of 'arc'. -/
theorem addArc_arc (w : World) (d o : Nat) (g : GG) (G : List (List Nat)) (J : List Bool) (h : Gr w d o g G J) (t u : Nat) (ht : t < G.length) (hw : wt G < 1000000000) :
    Calls Ybaz.prog 37 #[.pointer (some ⟨d, o, none⟩), .int .i64 t, .int .i64 u] w fun e w' => e = .returned (.tuple #[]) ∧ ∃ g', Gr w' d o g' (arc G t u) J ∧ Grew d w w' g g' := by
  obtain ⟨r, hr⟩ := has_at G ht
  have hl := row_wt G t r hr
  refine (addArc_any w d o g G J h t u r hr (by omega)).mono ?_
  rintro e w' ⟨rfl, g', h1, h2, h3, h9⟩
  refine ⟨rfl, g', ?_, ⟨h2, h3, h9⟩⟩
  rw [arc, show G.getD t [] = r by simp [hr]]
  exact h1

/-- A list of numbers that a graph does not own. -/
structure Apart (w : World) (d : Nat) (g : GG) (a : Option Addr) (n c : Nat) (xs : List Nat) : Prop where
  sl : ∃ f, Sl w 3 1 a n c f (xs.map nI) ∧ d ∉ f ∧ ∀ k ∈ f, k ∉ g.foot
theorem Apart.get {w w' : World} {d : Nat} {g g' : GG} {a : Option Addr} {n c : Nat} {xs : List Nat} (h : Apart w d g a n c xs) (hg : Grew d w w' g g') {k x : Nat} (hk : xs[k]? = some x) : ∃ b, a = some ⟨b, 0, none⟩ ∧ w'.cell? ⟨b, k, none⟩ = some (.int .i64 x) := by
  obtain ⟨f, h1, h2, h3⟩ := h.sl
  have h4 := h1.keep hg.upd (by intro k hk hm; simp only [List.mem_cons] at hm; rcases hm with rfl | hm; exact h2 hk; exact h3 k hk hm)
  obtain ⟨b, h5, _, h6⟩ := h4.get (j := k) (v := nI x) (by simp [hk])
  exact ⟨b, h5, h6⟩
theorem Apart.len {w : World} {d : Nat} {g : GG} {a : Option Addr} {n c : Nat} {xs : List Nat} (h : Apart w d g a n c xs) : n = xs.length := by
  obtain ⟨f, h1, _⟩ := h.sl
  have := h1.len
  simp at this; exact this.symm
theorem Apart.keep {w w' : World} {d : Nat} {g g' : GG} {a : Option Addr} {n c : Nat} {xs : List Nat} (h : Apart w d g a n c xs) (hg : Grew d w w' g g') : Apart w' d g' a n c xs := by
  obtain ⟨f, h1, h2, h3⟩ := h.sl
  have h4 := h1.keep hg.upd (by intro k hk hm; simp only [List.mem_cons] at hm; rcases hm with rfl | hm; exact h2 hk; exact h3 k hk hm)
  refine ⟨f, h4, h2, ?_⟩
  intro k hk hm
  rcases hg.foot k hm with h5 | h5
  · exact h3 k hk h5
  · have := h1.lt k hk; omega

def joinG (G : List (List Nat)) (ts us : List Nat) : List (List Nat) :=
  if 1 < ts.length ∧ 1 < us.length then arcsFrom (arcsTo (G ++ [[]]) ts G.length) G.length us else arcsAll G ts us
def joinJ (J : List Bool) (ts us : List Nat) : List Bool := if 1 < ts.length ∧ 1 < us.length then J ++ [true] else J

set_option maxRecDepth 100000 in
theorem join_any (w : World) (d o : Nat) (g : GG) (G : List (List Nat)) (J : List Bool) (h : Gr w d o g G J) (aT aU : Option Addr) (cT cU : Nat) (ts us : List Nat)
    (hT : Apart w d g aT ts.length cT ts) (hU : Apart w d g aU us.length cU us) (hts : ∀ t ∈ ts, t < G.length) (hw : G.length + wt G + (ts.length + 1) * (us.length + 1) < 1000000000) :
    Calls Ybaz.prog 95 #[.pointer (some ⟨d, o, none⟩), .slice aT ts.length cT, .slice aU us.length cU] w fun e w' => e = .returned (.tuple #[]) ∧ ∃ g', Gr w' d o g' (joinG G ts us) (joinJ J ts us) ∧ Grew d w w' g g' := by
  have HG : Hid _ := h
  have HT : Hid _ := hT
  have HU : Hid _ := hU
  have HS : Hid _ := hts
  have HW : Hid _ := hw
  clear h hT hU hts hw
  by_cases hc : 1 < ts.length ∧ 1 < us.length
  · obtain ⟨c1, c2⟩ := hc
    go_enter Ybaz.func95, Ybaz.ntmps95
    go_wp2_with fail
    have hmul : ts.length + us.length < (ts.length + 1) * (us.length + 1) := by
      rw [Nat.add_mul, Nat.mul_add, Nat.one_mul]; omega
    have hw := HW.out
    have hw1 : G.length + wt G + ts.length + us.length < 1000000000 := by omega
    clear hw
    refine (addJunction_any w d o g G J HG.out (by omega)).mono ?_
    rintro e w1 ⟨rfl, g1, h1, k1⟩
    have H1 : Hid _ := h1
    have K1 : Hid _ := k1
    have X1 : Hid (Apart w1 d g1 aT ts.length cT ts) := HT.out.keep k1
    have Y1 : Hid (Apart w1 d g1 aU us.length cU us) := HU.out.keep k1
    clear h1 k1
    go_wp2_with fail
    go_loopw [27] (fun t27 wr => ∃ (k : Nat) (g' : GG) (G' : List (List Nat)), k ≤ ts.length ∧ t27 = .int .i64 k ∧ Gr wr d o g' G' (J ++ [true]) ∧ Grew d w1 wr g1 g' ∧ G'.length = G.length + 1 ∧ wt G' ≤ wt G + k ∧ arcsTo G' (ts.drop k) G.length = arcsTo (G ++ [[]]) ts G.length) (fun i _ => ts.length - (intOf i).toNat)
    case atStart => exact ⟨0, g1, G ++ [[]], by omega, rfl, H1.out, Grew.refl _ _ _, by simp, by simp [wt], by simp⟩
    case round =>
      obtain ⟨k, g', G', hk, rfl, h1, h2, h3, h4, h5⟩ := hrel
      have H2 : Hid _ := h1
      have K2 : Hid _ := h2
      have E2 : Hid _ := h5
      clear h1 h2 h5
      by_cases hlt : k < ts.length
      · obtain ⟨t, ht⟩ := has_at ts hlt
        obtain ⟨b, rfl, cb⟩ := X1.out.get K2.out ht
        have htG := HS.out t (List.mem_of_getElem? ht)
        have HTT : Hid _ := ht
        clear ht
        go_wp2_with fail
        refine (addArc_arc wr d o g' G' (J ++ [true]) H2.out t G.length (by omega) (by omega)).mono ?_
        rintro e w2 ⟨rfl, g2, h6, k2⟩
        have H6 : Hid _ := h6
        have K6 : Hid _ := k2
        clear h6 k2
        go_wp2_with fail
        refine ⟨⟨k + 1, g2, _, by omega, by go_num, H6.out, K2.out.trans K6.out, by rw [arc_len]; exact h3, by rw [wt_arc _ _ _ (by omega)]; omega, ?_⟩, by simp [intOf]; omega⟩
        have := E2.out
        rw [drop_at HTT.out] at this
        exact this
      · have hk2 : k = ts.length := by omega
        subst hk2
        go_wp2_with fail
        have e2 := E2.out
        rw [List.drop_length] at e2
        have E3 : Hid (G' = arcsTo (G ++ [[]]) ts G.length) := e2
        clear e2 E2
        go_loopw [38] (fun t38 wr => ∃ (k : Nat) (g2 : GG) (G2 : List (List Nat)), k ≤ us.length ∧ t38 = .int .i64 k ∧ Gr wr d o g2 G2 (J ++ [true]) ∧ Grew d w1 wr g1 g2 ∧ G2.length = G.length + 1 ∧ wt G2 ≤ wt G + ts.length + k ∧ arcsFrom G2 G.length (us.drop k) = arcsFrom G' G.length us) (fun i _ => us.length - (intOf i).toNat)
        case atStart => exact ⟨0, g', G', by omega, rfl, H2.out, K2.out, h3, by omega, by simp⟩
        case round =>
          obtain ⟨k, g2, G2, hk, rfl, h6, h7, h8, h9, h10⟩ := hrel
          have H6 : Hid _ := h6
          have K6 : Hid _ := h7
          have E6 : Hid _ := h10
          clear h6 h7 h10
          by_cases hlt : k < us.length
          · obtain ⟨u, hu⟩ := has_at us hlt
            obtain ⟨b, rfl, cb⟩ := Y1.out.get K6.out hu
            have HTT : Hid _ := hu
            clear hu
            go_wp2_with fail
            refine (addArc_arc _ d o g2 G2 (J ++ [true]) H6.out G.length u (by omega) (by omega)).mono ?_
            rintro e w2 ⟨rfl, g3, h6, k2⟩
            have H7 : Hid _ := h6
            have K7 : Hid _ := k2
            clear h6 k2
            go_wp2_with fail
            refine ⟨⟨k + 1, g3, _, by omega, by go_num, H7.out, K6.out.trans K7.out, by rw [arc_len]; exact h8, by rw [wt_arc _ _ _ (by omega)]; omega, ?_⟩, by simp [intOf]; omega⟩
            have := E6.out
            rw [drop_at HTT.out] at this
            exact this
          · have hk2 : k = us.length := by omega
            subst hk2
            go_wp2_with fail
            (try simp only [Exit.inBlock, Exit.then])
            refine bodyPost_ret (results_none rfl _ _ _) rfl ?_
            refine ⟨rfl, g2, ?_, K1.out.trans K6.out⟩
            have e6 := E6.out
            rw [List.drop_length] at e6
            have e7 : G2 = arcsFrom G' G.length us := e6
            rw [joinG, joinJ, if_pos ⟨c1, c2⟩, if_pos ⟨c1, c2⟩, ← E3.out, ← e7]
            exact H6.out
  · have HC : Hid _ := hc
    have hcc : ts.length ≤ 1 ∨ us.length ≤ 1 := by omega
    have hmul : ts.length * us.length + ts.length + us.length < (ts.length + 1) * (us.length + 1) := by
      rw [Nat.add_mul, Nat.mul_add, Nat.one_mul]; omega
    have hw := HW.out
    have hbT : ts.length < 1000000000 := by omega
    have hbU : us.length < 1000000000 := by omega
    have hw1 : G.length + wt G + ts.length * us.length < 1000000000 := by omega
    clear hw hmul hc
    go_enter Ybaz.func95, Ybaz.ntmps95
    go_wp2_with fail
    all_goals
      go_loopw [49] (fun t49 wr => ∃ (k : Nat) (g' : GG) (G' : List (List Nat)), k ≤ ts.length ∧ t49 = .int .i64 k ∧ Gr wr d o g' G' J ∧ Grew d w wr g g' ∧ G'.length = G.length ∧ wt G' ≤ wt G + k * us.length ∧ arcsAll G' (ts.drop k) us = arcsAll G ts us) (fun i _ => ts.length - (intOf i).toNat)
      case atStart => exact ⟨0, g, G, by omega, rfl, HG.out, Grew.refl _ _ _, rfl, by omega, by simp⟩
      case round =>
        obtain ⟨k, g', G', hk, rfl, h1, h2, h3, h4, h5⟩ := hrel
        have H2 : Hid _ := h1
        have K2 : Hid _ := h2
        have E2 : Hid _ := h5
        have W2 : Hid _ := h4
        clear h1 h2 h5 h4
        by_cases hlt : k < ts.length
        · obtain ⟨t, ht⟩ := has_at ts hlt
          obtain ⟨b, rfl, cb⟩ := HT.out.get K2.out ht
          have htG := HS.out t (List.mem_of_getElem? ht)
          have HTT : Hid _ := ht
          clear ht
          have hb1 : wt G + k * us.length + us.length < 1000000000 := by
            have e1 : (k + 1) * us.length ≤ ts.length * us.length := Nat.mul_le_mul_right _ (by omega)
            rw [Nat.succ_mul] at e1
            omega
          have w2 := W2.out
          generalize hq : wt G + k * us.length = q at *
          clear hw1
          have HQ : Hid _ := hq
          clear hq
          go_wp2_with fail
          clear cb
          go_loopw [55] (fun t55 wr => ∃ (m : Nat) (g2 : GG) (G2 : List (List Nat)), m ≤ us.length ∧ t55 = .int .i64 m ∧ Gr wr d o g2 G2 J ∧ Grew d w wr g g2 ∧ G2.length = G.length ∧ wt G2 ≤ q + m ∧ arcsFrom G2 t (us.drop m) = arcsFrom G' t us) (fun i _ => us.length - (intOf i).toNat)
          case atStart => exact ⟨0, g', G', by omega, rfl, H2.out, K2.out, h3, by omega, by simp⟩
          case round =>
            obtain ⟨m, g2, G2, hm, rfl, h6, h7, h8, h9, h10⟩ := hrel
            have H6 : Hid _ := h6
            have K6 : Hid _ := h7
            have E6 : Hid _ := h10
            clear h6 h7 h10
            by_cases hlt2 : m < us.length
            · obtain ⟨u, hu⟩ := has_at us hlt2
              obtain ⟨b2, rfl, cb⟩ := HU.out.get K6.out hu
              have HTT2 : Hid _ := hu
              clear hu
              go_wp2_with fail
              refine (addArc_arc _ d o g2 G2 J H6.out t u (by omega) (by omega)).mono ?_
              rintro e w2 ⟨rfl, g3, h6, k2⟩
              have H7 : Hid _ := h6
              have K7 : Hid _ := k2
              clear h6 k2
              go_wp2_with fail
              refine ⟨⟨m + 1, g3, _, by omega, by go_num, H7.out, K6.out.trans K7.out, by rw [arc_len]; exact h8, by rw [wt_arc _ _ _ (by omega)]; omega, ?_⟩, by simp [intOf]; omega⟩
              have := E6.out
              rw [drop_at HTT2.out] at this
              exact this
            · have hk2 : m = us.length := by omega
              subst hk2
              go_wp2_with fail
              have e6 := E6.out
              rw [List.drop_length] at e6
              have e7 : G2 = arcsFrom G' t us := e6
              refine ⟨⟨k + 1, g2, G2, by omega, by go_num, H6.out, K6.out, h8, by rw [Nat.succ_mul, ← Nat.add_assoc, HQ.out]; exact h9, ?_⟩, by simp [intOf]; omega⟩
              have e8 := E2.out
              rw [drop_at HTT.out] at e8
              rw [e7]
              exact e8
        · have hk2 : k = ts.length := by omega
          subst hk2
          go_wp2_with fail
          go_end0
          have e2 := E2.out
          rw [List.drop_length] at e2
          have e7 : G' = arcsAll G ts us := e2
          refine ⟨rfl, g', ?_, K2.out⟩
          rw [joinG, joinJ, if_neg HC.out, if_neg HC.out, ← e7]
          exact H2.out
end Go.Proofs.YbulkctquGreatFmt

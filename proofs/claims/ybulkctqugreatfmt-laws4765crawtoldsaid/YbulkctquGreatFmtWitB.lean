/-
  The witness: whole.
-/
import Derived.Test.YbulkctquGreatFmtWitP
import Derived.Test.YbulkctquGreatFmtWitA
import Derived.Deep.RegionWith
import Derived.BigQuiet
import Derived.Deep.DeepCutAuto
namespace Go.Proofs.YbulkctquGreatFmt
open Go.ChangeShapes Go.WideShapes Go.ChangeAt Go.RowKit Go.Ord
set_option linter.unusedVariables false
noncomputable def x4 : Code := ((Ybaz.f10.body.bind (fromBlk 3)).getD .skip)
set_option maxHeartbeats 16000000 in
set_option maxRecDepth 100000 in
theorem wtx {u0 u3 u4 u9 u11 u12 u13 u14 u15 u16 u17 u18 u19 u20 u21 u22 u23 u24 u25 u26 u27 u28 u29 u30 u31 u32 u33 u34 u35 u36 u38 u40 u41 u42 u43 u44 u45 u46 u47 u48 u49 u50 u51 u52 u53 u54 u55 u56 u57 u58 u59 u60 u61 u62 u63 u64 u65 u66 u67 u68 u69 u70 u71 u72 u73 u74 u75 u76 u77 u78 u79 u80 u81 u82 u83 u84 u85 u86 u87 u88 u89 u90 u91 u92 u93 u94 u95 u96 u97 u98 u99 u100 u101 u102 u103 u104 u105 u106 u107 u108 u109 u110 u111 u112 u113 u114 u115 u116 u117 u118 u119 u120 u121 u122 u123 u124 u125 u126 u127 u128 u129 u130 u131 u132 u133 u134 u135 u136 u137 u138 u139 u140 u141 u142 u143 u144 : Value} (w : World) (R : HR) (hs : List (List Tx)) (T : Nat → Nat → Nat) (cap : Nat) (H : HistE w R hs) (S : Ser hs T) (F : Nat → Option Wr) (A : List Rk) (zs : List Nat) (NM : Nat × Nat → Option Nat) (vars vers : List Nat) (os : List Ob) (ss : List Sr) (fa : List Int) (ows G : List (List Nat)) (J : List Bool) (NP0 : NP hs F A zs NM vars vers os ss fa ows G J) (W : WF hs F) (P : List Nat) (Q : PO hs A zs T ss P) (h12 : P.length ≤ 12) (g c b0 : Nat) (hO : Sl w 9 1 (some ⟨g, 0, none⟩) P.length c [g] ((nmsOf (nmsAt A zs A.length) P).map strV)) (s k n tot cS : Nat) (last : Int) (l : List Tx) (t : Tx) (hl : hs[s]? = some l) (ht : l[k]? = some t) (PS PK : List Nat) (wr : World) (hP : Pcs w wr ([([b0], CellIs b0 (.slice (some ⟨R.top, 0, none⟩) hs.length cap)), ([b0 + 1], MarksAt (b0 + 1) P.length PS), ([b0 + 2], MarksAt (b0 + 2) P.length PK)])) (hT : WT hs A zs P s k last PS PK) (hn : n + (rksRow s k (l.drop k)).length = tot) (hn2 : tot < 1000) (Jx K' : Act → World → Prop) (Q' : Exit → Act → World → Prop)
    (hJ : ∀ a' w', MeetC [none, none, none, none, some none, none, none, some (some false), none, none, some (some true), some none, some none, some none, some none, some none, some none, none, none, none, none, none, none, none, none, none, none, none, none, none, none, none, none, none, none, none, none, none, none, none, none, some none, some none, some none, some none, some none, some none, some none, some none, some none, some none, some none, some none, some none, some none, some none, some none, some none, some none, some none, some none, some none, some none, some none, some none, some none, some none, some none, some none, some none, some none, some none, some none, some none, some none, some none, some none, some none, some none, some none, some none, some none, none, none, none, none, none, none, none, none, none, none, none, none, none, none, none, none, none, none, none, none, none, none, none, none, none, none, none, none, none, none, none, none, none, none, none, none, none, none, none, none, none, none, none, none, none, none, none, none, none, none, none, none, none, none, none, none, none, none, none, none, none, none, none] [u0, .slice (some ⟨g, 0, none⟩) P.length c, .pointer (some ⟨b0, 0, none⟩), u3, u4, .slice (some ⟨b0 + 1, 0, none⟩) P.length P.length, .slice (some ⟨b0 + 2, 0, none⟩) P.length P.length, .int .i64 n, .int .i64 s, u9, .int .i64 last, u11, u12, u13, u14, u15, u16, u17, u18, u19, u20, u21, u22, u23, u24, u25, u26, u27, u28, u29, u30, u31, u32, u33, u34, u35, u36, .slice (some ⟨R.ses s, 0, none⟩) l.length cS, u38, .int .i64 k, u40, u41, u42, u43, u44, u45, u46, u47, u48, u49, u50, u51, u52, u53, u54, u55, u56, u57, u58, u59, u60, u61, u62, u63, u64, u65, u66, u67, u68, u69, u70, u71, u72, u73, u74, u75, u76, u77, u78, u79, u80, u81, u82, u83, u84, u85, u86, u87, u88, u89, u90, u91, u92, u93, u94, u95, u96, u97, u98, u99, u100, u101, u102, u103, u104, u105, u106, u107, u108, u109, u110, u111, u112, u113, u114, u115, u116, u117, u118, u119, u120, u121, u122, u123, u124, u125, u126, u127, u128, u129, u130, u131, u132, u133, u134, u135, u136, u137, u138, u139, u140, u141, u142, u143, u144] [] (fun x7 y10 wc => ∃ (n : Nat) (last : Int) (PS PK : List Nat), x7 = .int .i64 n ∧ y10 = .int .i64 last ∧ Pcs w wc ([([b0], CellIs b0 (.slice (some ⟨R.top, 0, none⟩) hs.length cap)), ([b0 + 1], MarksAt (b0 + 1) P.length PS), ([b0 + 2], MarksAt (b0 + 2) P.length PK)]) ∧ WT hs A zs P s (k + 1) last PS PK ∧ n + (rksRow s (k + 1) (l.drop (k + 1))).length = tot) a' w' → Jx a' w') (hK : ∀ a' w', Met Jx a' w' → K' a' w') : x4.wp Ybaz.prog (Exit.then K' Q') ⟨[u0, .slice (some ⟨g, 0, none⟩) P.length c, .pointer (some ⟨b0, 0, none⟩), u3, u4, .slice (some ⟨b0 + 1, 0, none⟩) P.length P.length, .slice (some ⟨b0 + 2, 0, none⟩) P.length P.length, .int .i64 n, .int .i64 s, u9, .int .i64 last, u11, u12, u13, u14, u15, u16, u17, u18, u19, u20, u21, u22, u23, u24, u25, u26, u27, u28, u29, u30, u31, u32, u33, u34, u35, u36, .slice (some ⟨R.ses s, 0, none⟩) l.length cS, u38, .int .i64 k, u40, u41, u42, u43, u44, u45, u46, u47, u48, u49, u50, u51, u52, u53, u54, u55, u56, u57, u58, u59, u60, u61, u62, u63, u64, u65, u66, u67, u68, u69, u70, u71, u72, u73, u74, u75, u76, u77, u78, u79, u80, u81, u82, u83, u84, u85, u86, u87, u88, u89, u90, u91, u92, u93, u94, u95, u96, u97, u98, u99, u100, u101, u102, u103, u104, u105, u106, u107, u108, u109, u110, u111, u112, u113, u114, u115, u116, u117, u118, u119, u120, u121, u122, u123, u124, u125, u126, u127, u128, u129, u130, u131, u132, u133, u134, u135, u136, u137, u138, u139, u140, u141, u142, u143, u144].toArray, []⟩ wr := by
  have HH : Hid _ := H
  have SS : Hid _ := S
  have NH : Hid _ := NP0
  have WW : Hid _ := W
  have QH : Hid _ := Q
  have HJ : Hid _ := hJ
  have P9 : Hid _ := hP
  have TH : Hid _ := hT
  have OH : Hid _ := hO
  have L3 : Hid (hs[s]? = some l) := hl
  have T3 : Hid (l[k]? = some t) := ht
  have CN : Hid (n + (rksRow s k (l.drop k)).length = tot) := hn
  have hnn : n ≤ tot := by omega
  have hs9 : s < 90 := by have := (List.getElem?_eq_some_iff.mp hl).1; have := S.small; omega
  have hl9 := S.small2 l (List.mem_of_getElem? hl)
  have hkl : k < l.length := (List.getElem?_eq_some_iff.mp ht).1
  have HE := H.below hP.bel
  obtain ⟨o2, c3, _⟩ := HE.base.evs s l k t hl ht
  have c5 := HE.base.com s l k t hl ht
  have KT : Hid (∀ z, Calls Ybaz.prog 22 #[.int .i64 s, .int .i64 k] z fun e w' => e = .returned (.string ⟨(nm s k).toArray⟩) ∧ w' = z) := fun z => cname s k (by omega) (by omega) z
  have PA : Hid (Pcs w (wr.alloc (.cells #[.slice o2 t.evs.length (R.ec s k), .bool t.com] 39)) ([([b0], CellIs b0 (.slice (some ⟨R.top, 0, none⟩) hs.length cap)), ([b0 + 1], MarksAt (b0 + 1) P.length PS), ([b0 + 2], MarksAt (b0 + 2) P.length PK)])) := hP.keep (Upd.alloc [] _ _) (by simp)
  clear H S NP0 W Q hJ hP hT hO hl ht hn HE
  conv => arg 2; whnf
  go_upto_region 11 with fail
  clear c3 c5
  obtain ⟨bT, hbT⟩ : ∃ z, z = wr.heap.size := ⟨_, rfl⟩
  obtain ⟨W1, hW1⟩ : ∃ z : World, z = wr.alloc (.cells #[.slice o2 t.evs.length (R.ec s k), .bool t.com] 39) := ⟨_, rfl⟩
  have cT : W1.cell? ⟨bT, 1, none⟩ = some (.bool t.com) := by rw [hW1, hbT]; exact (Blk.new wr #[.slice o2 t.evs.length (R.ec s k), .bool t.com] 39).cell 1
  rw [← hW1] at PA ⊢
  rw [← hbT]
  clear hW1 hbT P9
  cases hcm : t.com with
  | false =>
    rw [hcm] at cT
    have HNC : Hid (¬ Cm hs s k) := by
      rintro ⟨l', t', q1, q2, q3⟩
      rw [L3.out] at q1; cases q1
      rw [T3.out] at q2; cases q2
      rw [hcm] at q3; cases q3
    have CN2 : Hid (n + (rksRow s (k + 1) (l.drop (k + 1))).length = tot) := by
      have := CN.out
      rw [drop_at T3.out] at this
      simp only [rksRow, hcm, Bool.false_eq_true, if_false, List.nil_append] at this
      exact this
    clear hcm
    go_wp2_with fail
    refine Met.intro ?_
    refine HJ.out _ _ ?_
    refine MeetC.of (.int .i64 n) (.int .i64 last) ?_ ?_
    · rfl
    exact ⟨n, last, PS, PK, rfl, rfl, PA.out, TH.out.skip NH.out.hA NH.out.hp HNC.out, CN2.out⟩
  | true =>
    rw [hcm] at cT
    have CM : Hid (Cm hs s k) := ⟨l, t, L3.out, T3.out, hcm⟩
    have CN2 : Hid ((n + 1) + (rksRow s (k + 1) (l.drop (k + 1))).length = tot) := by
      have := CN.out
      rw [drop_at T3.out] at this
      simp only [rksRow, hcm, if_true, List.length_append, List.length_cons, List.length_nil] at this
      show n + 1 + _ = _
      omega
    clear hcm
    obtain ⟨u, hum, hu⟩ := ats_has NH.out.hA NH.out.hp CM.out
    obtain ⟨px, hpx⟩ := List.getElem?_of_mem ((QH.out.mem u).mpr hum)
    have hpl := (List.getElem?_eq_some_iff.mp hpx).1
    have PX : Hid (P[px]? = some u) := hpx
    have UA : Hid ((ats A zs)[u]? = some (s, k)) := hu
    clear hu hpx
    go_wp2_with fail
    refine Calls.mono (KT.out _) ?_
    rintro e' wz ⟨rfl, rfl⟩
    clear KT cT
    go_wp2_with fail
    refine wp_loopC [none, none, none, none, some none, none, none, none, none, none, none, none, none, none, some (some true), some none, some none, none, none, none, none, none, none, none, none, none, none, none, none, none, none, none, none, none, none, none, none, none, none, none, none, none, none, none, none, none, none, none, none, none, none, none, none, none, some (some false), some none, some none, some none, some none, some none, some none, some none, some none, some none, some none, some none, none, none, none, none, none, none, none, none, none, none, none, none, none, none, none, none, none, none, none, none, none, none, none, none, none, none, none, none, none, none, none, none, none, none, none, none, none, none, none, none, none, none, none, none, none, none, none, none, none, none, none, none, none, none, none, none, none, none, none, none, none, none, none, none, none, none, none, none, none, none, none, none, none, none, none, none, none, none, none] (fun n3 t54 t14 wx => ∃ i : Nat, i ≤ P.length ∧ n3 = P.length - i ∧ t54 = .int .i64 i ∧ t14 = .int .i64 (if px < i then (px : Int) else -1) ∧ wx = wz) P.length (.int .i64 0) (.int .i64 (-1)) rfl ⟨0, by omega, by omega, rfl, by simp, rfl⟩ ?_
    intro n3 uu x3 y3 wx J3 K3 hrel hJ3 hK3
    obtain ⟨i, hi1, rfl, rfl, rfl, rfl⟩ := hrel
    have HJ3 : Hid _ := hJ3
    clear hJ3
    dsimp only [fillC, Nat.reduceAdd]
    by_cases hlti : i < P.length
    · as_aux_lemma =>
      obtain ⟨v, hv⟩ := has_at P hlti
      have hvm : v < A.length := (QH.out.mem v).mp (List.mem_of_getElem? hv)
      obtain ⟨p, hp⟩ := has_at (ats A zs) (k := v) (by rw [ats_len NH.out.hp]; exact hvm)
      have ho := ord_at NH.out.hp hv hp
      obtain ⟨gx, q1, _, q2⟩ := OH.out.get (j := i) (v := strV (nm p.1 p.2)) (by simp [ho])
      injection q1 with q1
      injection q1 with q1
      subst q1
      have q3 : wx.cell? ⟨g, i, none⟩ = some (.string ⟨(nm p.1 p.2).toArray⟩) := (PA.out.bel.cell (World.block_lt_of_cell? _ _ q2)).trans q2
      by_cases he : i = px
      · as_aux_lemma =>
        have hpe : p = (s, k) := by
          have h1 := PX.out
          rw [← he, hv] at h1; cases h1
          have h2 := UA.out
          rw [hp] at h2; injection h2
        subst hpe
        have hif : (if px < i then (px : Int) else -1) = -1 := by rw [if_neg (by omega)]
        have hif2 : (if px < i + 1 then (px : Int) else -1) = (px : Int) := by rw [if_pos (by omega)]
        have HIF2 : Hid ((if px < i + 1 then (px : Int) else -1) = (i : Int)) := by show (if px < i + 1 then (px : Int) else -1) = (i : Int); rw [hif2]; omega
        rw [hif]
        have HIF : Hid ((if px < i then (px : Int) else -1) = -1) := hif
        clear hv hp ho q2 hif hif2 he
        go_wp2_with fail
        refine Met.intro ?_
        have HJ5 := HJ3.out
        refine HJ5 _ _ ?_
        refine EndC.of (P.length - (i + 1)) (.int .i64 ((i : Int) + 1)) (.int .i64 i) ?_ (by omega) ?_
        · rfl
        exact ⟨i + 1, by omega, rfl, by go_num, by rw [HIF2.out], rfl⟩
      · as_aux_lemma =>
        obtain ⟨s', k'⟩ := p
        obtain ⟨l', t', z1, z2, _⟩ := ats_cm NH.out.hA NH.out.hp hp
        simp only at z1 z2
        have hne : nm s' k' ≠ nm s k := fun e => by
          have b1 := (List.getElem?_eq_some_iff.mp z1).1
          have b2 := (List.getElem?_eq_some_iff.mp z2).1
          have b3 := SS.out.small
          have b4 := SS.out.small2 l' (List.mem_of_getElem? z1)
          obtain ⟨e1, e2⟩ := nm_inj (by omega) (by omega) (by omega) (by omega) e
          subst e1 e2
          have e3 := ats_inj NH.out.hA NH.out.hp hp UA.out
          subst e3
          exact he (nodup_at QH.out.nd hv PX.out)
        have hb1 : (nm s' k' == nm s k) = false := by simpa using hne
        have HIF : Hid ((if px < i + 1 then (px : Int) else -1) = if px < i then (px : Int) else -1) := by
          show (if px < i + 1 then (px : Int) else -1) = if px < i then (px : Int) else -1
          by_cases h : px < i
          · rw [if_pos h, if_pos (by omega)]
          · rw [if_neg h, if_neg (by omega)]
        obtain ⟨q, hq⟩ : ∃ q, q = (if px < i then (px : Int) else -1) := ⟨_, rfl⟩
        have HQ : Hid (q = (if px < i then (px : Int) else -1)) := hq
        rw [← hq]
        clear hv hp ho q2 z1 z2 hne he hq
        go_wp2_with fail
        refine Met.intro ?_
        refine HJ3.out _ _ ?_
        refine EndC.of (P.length - (i + 1)) (.int .i64 ((i : Int) + 1)) (.int .i64 q) ?_ (by omega) ?_
        · rfl
        exact ⟨i + 1, by omega, rfl, by go_num, by rw [HIF.out, HQ.out], rfl⟩
    · as_aux_lemma =>
      have hif : (if px < i then (px : Int) else -1) = (px : Int) := by rw [if_pos (by omega)]
      rw [hif]
      have hmo := TH.out.more QH.out PX.out UA.out
      have ma : MarksAt (b0 + 1) P.length PS wx := PA.out.mem (i := 1) rfl
      have mb : MarksAt (b0 + 2) P.length PK wx := PA.out.mem (i := 2) rfl
      obtain ⟨v1, hv1⟩ := has_at PS (k := px) (by rw [TH.out.lenS]; exact hpl)
      obtain ⟨v2, hv2⟩ := has_at PK (k := px) (by rw [TH.out.lenK]; exact hpl)
      obtain ⟨cm, zm⟩ := ma.get hv1
      obtain ⟨cn, zn⟩ := mb.get hv2
      have P1 : Pcs w (wx.setCell ⟨b0 + 1, px, none⟩ (.int .i64 s)) ([([b0], CellIs b0 (.slice (some ⟨R.top, 0, none⟩) hs.length cap)), ([b0 + 1], MarksAt (b0 + 1) P.length (PS.set px s)), ([b0 + 2], MarksAt (b0 + 2) P.length PK)]) := PA.out.put (i := 1) rfl (Upd.store _ _ _ _) (ma.set px s) (MarksAt.keeps _ _ _) (fun y hy => ⟨.inl hy, by simp at hy; subst hy; have := World.block_lt_of_cell? _ _ cm; simpa [World.setCell] using this⟩) (by simp)
      have mb1 : MarksAt (b0 + 2) P.length PK (wx.setCell ⟨b0 + 1, px, none⟩ (.int .i64 s)) := P1.mem (i := 2) rfl
      obtain ⟨cn1, zn1⟩ := mb1.get hv2
      have P2 : Hid (Pcs w ((wx.setCell ⟨b0 + 1, px, none⟩ (.int .i64 s)).setCell ⟨b0 + 2, px, none⟩ (.int .i64 k)) ([([b0], CellIs b0 (.slice (some ⟨R.top, 0, none⟩) hs.length cap)), ([b0 + 1], MarksAt (b0 + 1) P.length (PS.set px s)), ([b0 + 2], MarksAt (b0 + 2) P.length (PK.set px k))])) := P1.put (i := 2) rfl (Upd.store _ _ _ _) (mb1.set px k) (MarksAt.keeps _ _ _) (fun y hy => ⟨.inl hy, by simp at hy; subst hy; have := World.block_lt_of_cell? _ _ cn1; simpa [World.setCell] using this⟩) (by simp)
      clear ma mb hv1 hv2 P1 mb1 hif
      go_wp2_with fail
      refine Met.intro ?_
      refine HJ.out _ _ ?_
      refine MeetC.of (.int .i64 ((n : Int) + 1)) (.int .i64 px) ?_ ?_
      · rfl
      exact ⟨n + 1, (px : Int), PS.set px s, PK.set px k, by go_num, rfl, P2.out, TH.out.step NH.out.hA NH.out.hp QH.out.nd PX.out UA.out, CN2.out⟩
end Go.Proofs.YbulkctquGreatFmt

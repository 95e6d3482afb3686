/-
  The witness: the second run.
-/
import Derived.Test.YbulkctquGreatFmtWitP
import Derived.Test.YbulkctquGreatFmtNspM
import Derived.Deep.RegionWith
import Derived.BigQuiet
import Derived.Deep.DeepCutAuto
import Derived.Test.YbulkctquGreatFmtWrQ
import Derived.Test.YbulkctquGreatFmtWitA
namespace Go.Proofs.YbulkctquGreatFmt
open Go.ChangeShapes Go.WideShapes Go.ChangeAt Go.RowKit Go.Ord
set_option linter.unusedVariables false

section
variable {hs : List (List Tx)} {A : List Rk} {zs P : List Nat} {T : Nat → Nat → Nat} {ss : List Sr}
variable {s k : Nat} {last : Int} {PS PK : List Nat}
variable {os : List Ob}
theorem WT.moreR (h : WT hs A zs P s k last PS PK) (Q : POR hs A zs os ss P) {i u : Nat} (hi : P[i]? = some u) (hu : (ats A zs)[u]? = some (s, k)) : last < (i : Int) := by
  rcases h.las with q | ⟨j, v, b, q1, q2, q3, q4⟩
  · omega
  · have := Q.ses v u s b k q3 hu q4
    obtain ⟨a, c, e1, e2, e3⟩ := (befo_at Q.nd).mp this
    have e4 := nodup_at Q.nd q2 e2
    have e5 := nodup_at Q.nd hi e3
    omega
end
set_option maxHeartbeats 16000000 in
set_option maxRecDepth 100000 in
theorem wit30R {u0 u3 u4 u8 u9 u10 u11 u12 u13 u14 u15 u16 u17 u18 u19 u20 u21 u22 u23 u24 u25 u26 u27 u28 u29 u30 u31 u32 u33 u34 u35 u36 u37 u38 u39 u40 u41 u42 u43 u44 u45 u46 u47 u48 u49 u50 u51 u52 u53 u54 u55 u56 u57 u58 u59 u60 u61 u62 u63 u64 u65 u66 u67 u68 u69 u70 u71 u72 u73 u74 u75 u76 u77 u78 u79 u80 u81 u82 u83 u84 u85 u86 u87 u88 u89 u90 u91 u92 u93 u94 u95 u96 u97 u98 u99 u100 u101 u102 u103 u104 u105 u106 u107 u108 u109 u110 u111 u112 u113 u114 u115 u116 u117 u118 u119 u120 u121 u122 u123 u124 u125 u126 u127 u128 u129 u130 u131 u132 u133 u134 u135 u136 u137 u138 u139 u140 u141 u142 u143 u144 : Value} (w : World) (R : HR) (hs : List (List Tx)) (cap : Nat) (H : HistE w R hs) (S : HOk hs) (F : Nat → Option Wr) (A : List Rk) (zs : List Nat) (NM : Nat × Nat → Option Nat) (vars vers : List Nat) (os : List Ob) (ss : List Sr) (fa : List Int) (ows G : List (List Nat)) (J : List Bool) (NP0 : NP hs F A zs NM vars vers os ss fa ows G J) (W : WF hs F) (P : List Nat) (Q : POR hs A zs os ss P) (h12 : P.length ≤ 12) (g c b0 : Nat) (PS PK : List Nat) (wr : World) (hP : Pcs w wr ([([b0], CellIs b0 (.slice (some ⟨R.top, 0, none⟩) hs.length cap)), ([b0 + 1], MarksAt (b0 + 1) P.length PS), ([b0 + 2], MarksAt (b0 + 2) P.length PK)])) (hW : ∀ (i u s k : Nat), P[i]? = some u → (ats A zs)[u]? = some (s, k) → PS[i]? = some s ∧ PK[i]? = some k) :
    x30.wp Ybaz.prog (bodyPost Ybaz.prog Ybaz.f10 (fun e w' => e = .returned (.bool true) ∧ Below w.heap.size w w')) ⟨[u0, .slice (some ⟨g, 0, none⟩) P.length c, .pointer (some ⟨b0, 0, none⟩), u3, u4, .slice (some ⟨b0 + 1, 0, none⟩) P.length P.length, .slice (some ⟨b0 + 2, 0, none⟩) P.length P.length, .int .i64 (P.length : Nat), u8, u9, u10, u11, u12, u13, u14, u15, u16, u17, u18, u19, u20, u21, u22, u23, u24, u25, u26, u27, u28, u29, u30, u31, u32, u33, u34, u35, u36, u37, u38, u39, u40, u41, u42, u43, u44, u45, u46, u47, u48, u49, u50, u51, u52, u53, u54, u55, u56, u57, u58, u59, u60, u61, u62, u63, u64, u65, u66, u67, u68, u69, u70, u71, u72, u73, u74, u75, u76, u77, u78, u79, u80, u81, u82, u83, u84, u85, u86, u87, u88, u89, u90, u91, u92, u93, u94, u95, u96, u97, u98, u99, u100, u101, u102, u103, u104, u105, u106, u107, u108, u109, u110, u111, u112, u113, u114, u115, u116, u117, u118, u119, u120, u121, u122, u123, u124, u125, u126, u127, u128, u129, u130, u131, u132, u133, u134, u135, u136, u137, u138, u139, u140, u141, u142, u143, u144].toArray, []⟩ wr := by
  have HH : Hid _ := H
  have SS : Hid _ := S
  have NH : Hid _ := NP0
  have WW : Hid _ := W
  have QH : Hid _ := Q
  have HW : Hid (∀ (i u s k : Nat), P[i]? = some u → (ats A zs)[u]? = some (s, k) → PS[i]? = some s ∧ PK[i]? = some k) := hW
  have m1 := MapAt.new wr (ik .u64)
  have PA : Hid (Pcs w (wr.alloc (.map #[] 0)) ([([b0], CellIs b0 (.slice (some ⟨R.top, 0, none⟩) hs.length cap)), ([b0 + 1], MarksAt (b0 + 1) P.length PS), ([b0 + 2], MarksAt (b0 + 2) P.length PK)] ++ [([wr.heap.size], fun z => MapAt z (ik .u64) wr.heap.size (fun y => ((fun _ => none : Nat → Option Nat) y).map (ik .u64)))])) := hP.add (Upd.alloc [] _ _) (by simp) [wr.heap.size] _ (m1.congr (fun _ => rfl)) (mapKeeps _ _ _) (by simp) (by simp)
  have hmm := @run_makeMap Ybaz.prog
  have hs9 := S.small
  have SM2 : Hid (∀ l ∈ hs, l.length < 90) := S.small2
  have SM3 : Hid (∀ l ∈ hs, ∀ t ∈ l, t.evs.length < 1000) := S.small3
  clear H S NP0 W Q hW hP m1
  conv => arg 2; whnf
  go_upto_region 33 with fail
  obtain ⟨bM, hbM⟩ : ∃ z, z = wr.heap.size := ⟨_, rfl⟩
  obtain ⟨W1, hW1⟩ : ∃ z : World, z = wr.alloc (.map #[] 0) := ⟨_, rfl⟩
  rw [← hW1, ← hbM] at PA ⊢
  clear hmm hW1 hbM
  go_wp2_with fail
  refine wp_loopC [none, none, none, none, some none, none, none, none, none, none, none, none, none, none, none, none, none, none, some none, none, some none, some none, some none, none, none, none, none, none, none, none, none, none, none, none, none, none, none, none, none, none, none, none, none, none, none, none, none, none, none, none, none, none, none, none, none, none, none, none, none, none, none, none, none, none, none, none, none, none, none, none, none, none, none, none, none, none, none, none, none, none, none, none, none, none, none, none, none, none, none, none, none, some (some false), some none, some none, some none, some none, some none, some none, some none, some none, some none, some none, some none, some none, some none, some none, some none, some none, some none, some none, some none, some none, some none, some none, some none, some none, some none, some none, some none, some none, some none, some none, some none, some none, some none, some none, some none, some none, some none, some none, some none, some none, some none, some none, some none, some none, some none, some none, some none, some none, some none, some none, some none, some none, some none] (fun n4 t91 _ wr => ∃ (i : Nat) (st : Nat → Option Nat), i ≤ P.length ∧ n4 = P.length - i ∧ t91 = .int .i64 i ∧ Pcs w wr ([([b0], CellIs b0 (.slice (some ⟨R.top, 0, none⟩) hs.length cap)), ([b0 + 1], MarksAt (b0 + 1) P.length PS), ([b0 + 2], MarksAt (b0 + 2) P.length PK)] ++ [([bM], fun z => MapAt z (ik .u64) bM (fun y => (st y).map (ik .u64)))]) ∧ RSR hs A zs P i 0 st) P.length (.int .i64 0) undef rfl ⟨0, (fun _ => none), by omega, by omega, rfl, PA.out, RSR.start⟩ ?_
  intro n4 uu x4 y4 wr J4 K4 hrel hJ4 hK4
  obtain ⟨i, st, hi1, rfl, rfl, h1, h2⟩ := hrel
  clear PA
  have HJ4 : Hid _ := hJ4
  have P9 : Hid _ := h1
  have RH : Hid _ := h2
  clear hJ4 h1 h2
  dsimp only [fillC, Nat.reduceAdd]
  by_cases hlti : i < P.length
  · as_aux_lemma =>
    obtain ⟨u, hu⟩ := has_at P hlti
    have hum : u < A.length := (QH.out.mem u).mp (List.mem_of_getElem? hu)
    obtain ⟨p, hp⟩ := has_at (ats A zs) (k := u) (by rw [ats_len NH.out.hp]; exact hum)
    obtain ⟨s, k⟩ := p
    obtain ⟨l, t, hl, ht, hc⟩ := ats_cm NH.out.hA NH.out.hp hp
    simp only at hl ht
    obtain ⟨w1, w2⟩ := HW.out i u s k hu hp
    have UH : Hid (P[i]? = some u) := hu
    have PH : Hid ((ats A zs)[u]? = some (s, k)) := hp
    have L3 : Hid (hs[s]? = some l) := hl
    have T3 : Hid (l[k]? = some t) := ht
    have hsl : s < hs.length := (List.getElem?_eq_some_iff.mp hl).1
    have hkl : k < l.length := (List.getElem?_eq_some_iff.mp ht).1
    have hl9 := SM2.out l (List.mem_of_getElem? hl)
    have hte := SM3.out l (List.mem_of_getElem? hl) t (List.mem_of_getElem? ht)
    have HE := HH.out.below P9.out.bel
    have cb : wr.cell? ⟨b0, 0, none⟩ = some (.slice (some ⟨R.top, 0, none⟩) hs.length cap) := P9.out.mem (i := 0) rfl
    have ma : MarksAt (b0 + 1) P.length PS wr := P9.out.mem (i := 1) rfl
    have mb : MarksAt (b0 + 2) P.length PK wr := P9.out.mem (i := 2) rfl
    have c1 := (ma.get w1).1
    have c2 := (mb.get w2).1
    obtain ⟨o1, c3, c4⟩ := HE.base.ses s l hl
    have ho1 : o1 = some ⟨R.ses s, 0, none⟩ := c4 (by intro h; rw [h] at hkl; simp at hkl)
    subst ho1
    obtain ⟨o2, c5, c6⟩ := HE.base.evs s l k t hl ht
    have C6 : Hid (t.evs ≠ [] → o2 = some ⟨R.evs s k, 0, none⟩) := c6
    clear hu hp hl ht hc w1 w2 ma mb c4 c6 HE hum
    go_upto_region 36 with fail
    go_big_quiet (fail)
    clear cb c1 c2 c3 c5
    obtain ⟨Wd, hWd⟩ : ∃ z : World, z = wr.drewN nq := ⟨_, rfl⟩
    have PZ : Hid (Pcs w Wd ([([b0], CellIs b0 (.slice (some ⟨R.top, 0, none⟩) hs.length cap)), ([b0 + 1], MarksAt (b0 + 1) P.length PS), ([b0 + 2], MarksAt (b0 + 2) P.length PK)] ++ [([bM], fun z => MapAt z (ik .u64) bM (fun y => (st y).map (ik .u64)))])) := by
      show Pcs w Wd _
      rw [hWd]
      exact P9.out.keep (Upd.drewN [] _ _) (by simp)
    rw [← hWd]
    clear hWd P9
    go_wp2_with fail
    refine wp_loopC [none, none, none, none, some none, none, none, none, none, none, none, none, none, none, none, none, none, none, none, none, some none, some none, some none, none, none, none, none, none, none, none, none, none, none, none, none, none, none, none, none, none, none, none, none, none, none, none, none, none, none, none, none, none, none, none, none, none, none, none, none, none, none, none, none, none, none, none, none, none, none, none, none, none, none, none, none, none, none, none, none, none, none, none, none, none, none, none, none, none, none, none, none, none, none, none, none, none, none, none, none, none, none, none, none, none, none, none, none, none, none, none, some (some false), some none, some none, some none, some none, some none, some none, some none, some none, some none, some none, some none, some none, some none, some none, some none, some none, some none, some none, some none, some none, some none, some none, some none, some none, some none, some none, some none, some none, some none, some none, some none, some none, some none, none] (fun n5 t110 _ wr => ∃ (e : Nat) (st : Nat → Option Nat), e ≤ t.evs.length ∧ n5 = t.evs.length - e ∧ t110 = .int .i64 e ∧ Pcs w wr ([([b0], CellIs b0 (.slice (some ⟨R.top, 0, none⟩) hs.length cap)), ([b0 + 1], MarksAt (b0 + 1) P.length PS), ([b0 + 2], MarksAt (b0 + 2) P.length PK)] ++ [([bM], fun z => MapAt z (ik .u64) bM (fun y => (st y).map (ik .u64)))]) ∧ RSR hs A zs P i e st) t.evs.length (.int .i64 0) undef rfl ⟨0, st, by omega, by omega, rfl, PZ.out, RH.out⟩ ?_
    intro n5 uv x5 y5 wr J5 K5 hrel hJ5 hK5
    obtain ⟨e, st, he1, rfl, rfl, h1, h2⟩ := hrel
    clear PZ RH
    have HJ5 : Hid _ := hJ5
    have P9 : Hid _ := h1
    have RH : Hid _ := h2
    clear hJ5 h1 h2
    dsimp only [fillC, Nat.reduceAdd]
    by_cases hlte : e < t.evs.length
    · as_aux_lemma =>
      obtain ⟨x, hx⟩ := has_at t.evs hlte
      have ho2 : o2 = some ⟨R.evs s k, 0, none⟩ := C6.out (by intro h; rw [h] at hlte; simp at hlte)
      subst ho2
      have HE := HH.out.below P9.out.bel
      have a0 := HE.ev s l k t e x 0 _ L3.out T3.out hx rfl
      have a1 := HE.ev s l k t e x 1 _ L3.out T3.out hx rfl
      have a2 := HE.ev s l k t e x 2 _ L3.out T3.out hx rfl
      have a3 := HE.ev s l k t e x 3 _ L3.out T3.out hx rfl
      simp only [Nat.add_zero] at a0
      have HEN : Hid (EvN hs A zs u e x) := ⟨(s, k), PH.out, l, t, L3.out, T3.out, hx⟩
      have hkd := SS.out.kind s k e x ⟨l, t, L3.out, T3.out, hx⟩
      have PA : Hid (Pcs w (wr.alloc (.cells #[.int .u8 x.k, .int .u64 x.x, .int .u64 x.v, .bool x.i] 37)) ([([b0], CellIs b0 (.slice (some ⟨R.top, 0, none⟩) hs.length cap)), ([b0 + 1], MarksAt (b0 + 1) P.length PS), ([b0 + 2], MarksAt (b0 + 2) P.length PK)] ++ [([bM], fun z => MapAt z (ik .u64) bM (fun y => (st y).map (ik .u64)))])) := P9.out.keep (Upd.alloc [] _ _) (by simp)
      clear hx HE
      go_upto_region 39 with fail
      obtain ⟨bE, hbE⟩ : ∃ z, z = wr.heap.size := ⟨_, rfl⟩
      obtain ⟨W1, hW1⟩ : ∃ z : World, z = wr.alloc (.cells #[.int .u8 x.k, .int .u64 x.x, .int .u64 x.v, .bool x.i] 37) := ⟨_, rfl⟩
      have kE : Blk W1 bE 37 #[.int .u8 x.k, .int .u64 x.x, .int .u64 x.v, .bool x.i] := by rw [hW1, hbE]; exact Blk.new _ _ _
      rw [← hW1] at PA ⊢
      rw [← hbE]
      clear hW1 hbE a0 a1 a2 a3 P9
      have e0 : W1.cell? ⟨bE, 0, none⟩ = some (.int .u8 x.k) := kE.cell 0
      have e1 : W1.cell? ⟨bE, 1, none⟩ = some (.int .u64 x.x) := kE.cell 1
      have e2 : W1.cell? ⟨bE, 2, none⟩ = some (.int .u64 x.v) := kE.cell 2
      have e3 : W1.cell? ⟨bE, 3, none⟩ = some (.bool x.i) := kE.cell 3
      clear kE
      rcases hkd with hk | hk
      · have HK : Hid (x.k = 0) := hk
        rw [hk] at e0
        clear hk
        cases hi : x.i with
        | true =>
          rw [hi] at e3
          have HS0 : Hid (st x.x = none) := RH.out.initial NH.out WW.out QH.out UH.out HEN.out HK.out hi
          clear hi
          go_wp2_with (at_lookup; refine wpList_look2 rfl (.tmp 126) (.tmp 128) 69 rfl Ybaz.underlying69 key35 bM _ (PA.out.mem (i := 3) rfl) x.x zero35 rfl rfl (.int .u64 0) false (by simp only [HS0.out]; rfl) (by simp only [HS0.out]; rfl) ?_)
          refine Met.intro ?_
          refine HJ5.out _ _ ?_
          refine EndC.of (t.evs.length - (e + 1)) (.int .i64 ((e : Int) + 1)) undef ?_ (by omega) ?_
          · rfl
          exact ⟨e + 1, st, by omega, rfl, by go_num, PA.out, RH.out.pass UH.out HEN.out HK.out⟩
        | false =>
          rw [hi] at e3
          have HS0 : Hid (st x.x = some x.v) := RH.out.finds NH.out WW.out QH.out UH.out HEN.out HK.out hi
          clear hi
          go_wp2_with (at_lookup; refine wpList_look2 rfl (.tmp 126) (.tmp 128) 69 rfl Ybaz.underlying69 key35 bM _ (PA.out.mem (i := 3) rfl) x.x zero35 rfl rfl (.int .u64 x.v) true (by simp only [HS0.out]; rfl) (by simp only [HS0.out]; rfl) ?_)
          refine Met.intro ?_
          refine HJ5.out _ _ ?_
          refine EndC.of (t.evs.length - (e + 1)) (.int .i64 ((e : Int) + 1)) undef ?_ (by omega) ?_
          · rfl
          exact ⟨e + 1, st, by omega, rfl, by go_num, PA.out, RH.out.pass UH.out HEN.out HK.out⟩
      · have HK : Hid (x.k = 1) := hk
        rw [hk] at e0
        clear hk
        go_wp2_with (at_mapUpdate; refine wpList_put rfl (.tmp 118) (.tmp 120) (.tmp 122) 69 rfl Ybaz.underlying69 key35 bM _ (PA.out.mem (i := 3) rfl) x.x (.int .u64 x.v) rfl rfl rfl ?_; intro w3 m3 u3; have M3 : Hid _ := m3; have U3 : Hid _ := u3; clear m3 u3)
        refine Met.intro ?_
        refine HJ5.out _ _ ?_
        refine EndC.of (t.evs.length - (e + 1)) (.int .i64 ((e : Int) + 1)) undef ?_ (by omega) ?_
        · rfl
        refine ⟨e + 1, (fun y => if y = x.x then some x.v else st y), by omega, rfl, by go_num, ?_, RH.out.write UH.out HEN.out HK.out⟩
        exact PA.out.put (i := 3) rfl U3.out (P' := fun z => MapAt z (ik .u64) bM (fun m => ((fun y => if y = x.x then some x.v else st y) m).map (ik .u64))) (M3.out.congr (fun m => by by_cases c : m = x.x <;> simp [c, ik])) (mapKeeps _ _ _) (fun k hk => ⟨.inl hk, by simp at hk; subst hk; exact M3.out.lt⟩) (by simp)
    · as_aux_lemma =>
      have he2 : e = t.evs.length := by omega
      go_wp2_with fail
      refine Met.intro ?_
      refine HJ4.out _ _ ?_
      refine EndC.of (P.length - (i + 1)) (.int .i64 ((i : Int) + 1)) undef ?_ (by omega) ?_
      · rfl
      refine ⟨i + 1, st, by omega, rfl, by go_num, P9.out, ?_⟩
      rw [he2] at RH
      refine RH.out.next UH.out (fun e' x hx => ?_)
      obtain ⟨p, q1, l', t', q2, q3, q4⟩ := hx
      rw [PH.out] at q1; cases q1
      have := L3.out
      simp only at q2 q3
      rw [this] at q2; cases q2
      have := T3.out
      rw [this] at q3; cases q3
      exact (List.getElem?_eq_some_iff.mp q4).1
  · as_aux_lemma =>
    go_wp2_with fail
    go_ret
    exact ⟨rfl, P9.out.bel⟩
end Go.Proofs.YbulkctquGreatFmt

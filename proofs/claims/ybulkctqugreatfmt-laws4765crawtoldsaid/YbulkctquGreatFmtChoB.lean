/-
  choose, walked: every way of every choice added to a clone.
-/
import Derived.Test.YbulkctquGreatFmtChoA
namespace Go.Proofs.YbulkctquGreatFmt
open Go.ChangeShapes Go.WideShapes Go.ChangeAt Go.RowKit Go.Ord
set_option linter.unusedVariables false
attribute [local go_sem ↓] Go.wp_at_zero Go.wp_at_succ

noncomputable def ch2 : Code := ((Ybaz.f45.body.bind (fromReg 2)).getD .skip)
set_option maxHeartbeats 16000000 in
set_option maxRecDepth 100000 in
theorem cho2 {u4 u5 u6 u7 u8 u9 u10 u11 u12 u13 u14 u15 u16 u17 u18 u19 u20 u21 u22 u23 u24 u25 u26 u27 u28 u29 u30 u31 u32 u33 u34 u35 u36 u37 u38 u39 u40 u41 u42 u43 u44 u45 u46 u47 u48 u49 u50 u51 u52 u53 u54 u55 u56 u57 u58 u59 u60 u61 u62 u63 u64 u65 u66 u67 u68 u69 u70 u71 u72 u73 u74 u75 u76 u77 u78 u79 u80 u81 u82 u83 u84 u85 u86 u87 u88 u89 u90 u91 u92 u93 u94 u95 u96 u97 u98 u99 u100 u101 u102 u103 u104 u105 u106 u107 u108 u109 u110 u111 u112 u113 u114 u115 u116 u117 u118 u119 u120 u121 u122 u123 u124 u125 u126 u127 u128 u129 u130 u131 u132 u133 u134 u135 u136 u137 u138 u139 u140 u141 u142 u143 u144 u145 u146 u147 u148 u149 u150 u151 u152 u153 u154 u155 u156 u157 : Value} (w : World) (d bN bF m b0 bQ bS lo : Nat) (aJ : Option Addr) (g : GG) (G : List (List Nat)) (J : List Bool) (sg : SG) (ss : List Sr) (og : OG) (os : List Ob) (v : SV) (fT fR : List Nat) (cs : List Cho) (vs : List (SV × SV)) (H : PX d bN bF m g G J sg ss og os v fT fR cs vs w) (hcl : cs.length ≤ 60) (hlo : w.heap.size ≤ lo)
    (hfl : ∀ C ∈ cs, C.a0.f.length ≤ 100 ∧ C.a1.f.length ≤ 100) (hfb : ∀ C ∈ cs, (∀ t ∈ C.a0.f, t < G.length) ∧ ∀ t ∈ C.a1.f, t < G.length) (hGl : G.length < 10000) (hwt : wt G < 800000) (Y : List SV) (fI : List (List Nat)) (W0 : World) (U0 : Upd [] w W0) (hb0 : W0.cell? ⟨b0, 0, none⟩ = some (.pointer (some ⟨d, 0, none⟩))) (hb0n : b0 ∉ bQ :: bS :: fI.flatten) (KG : GrK lo W0 bQ bS aJ G J Y fI) (Q : Exit → Act → World → Prop)
    (hQ : ∀ {u4 u5 u6 u7 u8 u9 u10 u11 u12 u13 u14 u15 u16 u17 u18 u19 u20 u21 u22 u23 u24 u25 u26 u27 u28 u29 u30 u31 u32 u33 u34 u35 u36 u37 u38 u39 u40 u41 u42 u43 u44 u45 u46 u47 u48 u49 u50 u51 u52 u53 u54 u55 u56 u57 u58 u59 u60 u61 u62 u63 u64 u65 u66 u67 u68 u69 u70 u71 u72 u73 u74 u75 u76 u77 u78 u79 u80 u81 u82 u83 u84 u85 u86 u87 u88 u89 u90 u91 u92 u93 u94 u95 u96 u97 u98 u99 u100 u101 u102 u103 u104 u105 u106 u107 u108 u109 u110 u111 u112 u113 u114 u115 u116 u117 u118 u119 u120 u121 u122 u123 u124 u125 u126 u127 u128 u129 u130 u131 u132 u133 u134 u135 u136 u137 u138 u139 u140 u141 u142 u143 u144 u145 u146 u147 u148 u149 u150 u151 u152 u153 u154 u155 u156 u157 : Value} (Y' : List SV) (fI' : List (List Nat)) (wr : World), GrK lo wr bQ bS aJ (allG G cs) J Y' fI' → Upd (bQ :: bS :: fI.flatten) W0 wr → (∀ k ∈ fI'.flatten, k ∈ fI.flatten ∨ W0.heap.size ≤ k) → Q .normal ⟨[.pointer (some ⟨d, 0, none⟩), .pointer (some ⟨b0, 0, none⟩), .slice none 0 0, .pointer (some ⟨bQ, 0, none⟩), u4, u5, u6, u7, u8, u9, u10, u11, u12, u13, u14, u15, u16, u17, u18, u19, u20, u21, u22, u23, u24, u25, u26, u27, u28, u29, u30, u31, u32, u33, u34, u35, u36, u37, u38, u39, u40, u41, u42, u43, u44, u45, u46, u47, u48, u49, u50, u51, u52, u53, u54, u55, u56, u57, u58, u59, u60, u61, u62, u63, u64, u65, u66, u67, u68, u69, u70, u71, u72, u73, u74, u75, u76, u77, u78, u79, u80, u81, u82, u83, u84, u85, u86, u87, u88, u89, u90, u91, u92, u93, u94, u95, u96, u97, u98, u99, u100, u101, u102, u103, u104, u105, u106, u107, u108, u109, u110, u111, u112, u113, u114, u115, u116, u117, u118, u119, u120, u121, u122, u123, u124, u125, u126, u127, u128, u129, u130, u131, u132, u133, u134, u135, u136, u137, u138, u139, u140, u141, u142, u143, u144, u145, u146, u147, u148, u149, u150, u151, u152, u153, u154, u155, u156, u157].toArray, []⟩ wr) :
    ch2.wp Ybaz.prog Q ⟨[.pointer (some ⟨d, 0, none⟩), .pointer (some ⟨b0, 0, none⟩), .slice none 0 0, .pointer (some ⟨bQ, 0, none⟩), u4, u5, u6, u7, u8, u9, u10, u11, u12, u13, u14, u15, u16, u17, u18, u19, u20, u21, u22, u23, u24, u25, u26, u27, u28, u29, u30, u31, u32, u33, u34, u35, u36, u37, u38, u39, u40, u41, u42, u43, u44, u45, u46, u47, u48, u49, u50, u51, u52, u53, u54, u55, u56, u57, u58, u59, u60, u61, u62, u63, u64, u65, u66, u67, u68, u69, u70, u71, u72, u73, u74, u75, u76, u77, u78, u79, u80, u81, u82, u83, u84, u85, u86, u87, u88, u89, u90, u91, u92, u93, u94, u95, u96, u97, u98, u99, u100, u101, u102, u103, u104, u105, u106, u107, u108, u109, u110, u111, u112, u113, u114, u115, u116, u117, u118, u119, u120, u121, u122, u123, u124, u125, u126, u127, u128, u129, u130, u131, u132, u133, u134, u135, u136, u137, u138, u139, u140, u141, u142, u143, u144, u145, u146, u147, u148, u149, u150, u151, u152, u153, u154, u155, u156, u157].toArray, []⟩ W0 := by
  have HX : Hid _ := H
  have HFL : Hid (∀ C ∈ cs, C.a0.f.length ≤ 100 ∧ C.a1.f.length ≤ 100) := hfl
  have HFB : Hid (∀ C ∈ cs, ∀ (q : Nat) (t : Nat), t ∈ (if q = 0 then C.a0.f else C.a1.f) → t < G.length) := fun C hC q t ht => by
    obtain ⟨h1, h2⟩ := hfb C hC
    split at ht
    · exact h1 t ht
    · exact h2 t ht
  have U0H : Hid (Upd [] w W0) := U0
  have KGH : Hid _ := KG
  have LOW : Hid (∀ k ∈ bQ :: bS :: fI.flatten, w.heap.size ≤ k) := fun k hk => by have := (KG.own k hk).1; omega
  have HQ : Hid (∀ {u4 u5 u6 u7 u8 u9 u10 u11 u12 u13 u14 u15 u16 u17 u18 u19 u20 u21 u22 u23 u24 u25 u26 u27 u28 u29 u30 u31 u32 u33 u34 u35 u36 u37 u38 u39 u40 u41 u42 u43 u44 u45 u46 u47 u48 u49 u50 u51 u52 u53 u54 u55 u56 u57 u58 u59 u60 u61 u62 u63 u64 u65 u66 u67 u68 u69 u70 u71 u72 u73 u74 u75 u76 u77 u78 u79 u80 u81 u82 u83 u84 u85 u86 u87 u88 u89 u90 u91 u92 u93 u94 u95 u96 u97 u98 u99 u100 u101 u102 u103 u104 u105 u106 u107 u108 u109 u110 u111 u112 u113 u114 u115 u116 u117 u118 u119 u120 u121 u122 u123 u124 u125 u126 u127 u128 u129 u130 u131 u132 u133 u134 u135 u136 u137 u138 u139 u140 u141 u142 u143 u144 u145 u146 u147 u148 u149 u150 u151 u152 u153 u154 u155 u156 u157 : Value} (Y' : List SV) (fI' : List (List Nat)) (wr : World), GrK lo wr bQ bS aJ (allG G cs) J Y' fI' → Upd (bQ :: bS :: fI.flatten) W0 wr → (∀ k ∈ fI'.flatten, k ∈ fI.flatten ∨ W0.heap.size ≤ k) → Q .normal ⟨[.pointer (some ⟨d, 0, none⟩), .pointer (some ⟨b0, 0, none⟩), .slice none 0 0, .pointer (some ⟨bQ, 0, none⟩), u4, u5, u6, u7, u8, u9, u10, u11, u12, u13, u14, u15, u16, u17, u18, u19, u20, u21, u22, u23, u24, u25, u26, u27, u28, u29, u30, u31, u32, u33, u34, u35, u36, u37, u38, u39, u40, u41, u42, u43, u44, u45, u46, u47, u48, u49, u50, u51, u52, u53, u54, u55, u56, u57, u58, u59, u60, u61, u62, u63, u64, u65, u66, u67, u68, u69, u70, u71, u72, u73, u74, u75, u76, u77, u78, u79, u80, u81, u82, u83, u84, u85, u86, u87, u88, u89, u90, u91, u92, u93, u94, u95, u96, u97, u98, u99, u100, u101, u102, u103, u104, u105, u106, u107, u108, u109, u110, u111, u112, u113, u114, u115, u116, u117, u118, u119, u120, u121, u122, u123, u124, u125, u126, u127, u128, u129, u130, u131, u132, u133, u134, u135, u136, u137, u138, u139, u140, u141, u142, u143, u144, u145, u146, u147, u148, u149, u150, u151, u152, u153, u154, u155, u156, u157].toArray, []⟩ wr) := hQ
  have HWT : Hid (∀ (G2 : List (List Nat)) (F : List Nat) (I : Nat), wt G2 < 900000 → F.length ≤ 100 → wt (arcsTo G2 F I) < 1000000) := fun G2 F I h1 h2 => by
    have := arcsTo_wt I F G2
    omega
  obtain ⟨Wc, hWc⟩ : ∃ z : World, z = W0 := ⟨_, rfl⟩
  subst hWc
  have e6 := ((H.grow U0).cell (j := 6) rfl).1
  rw [H.ch.n] at e6
  have B0N : Hid (b0 ∉ bQ :: bS :: fI.flatten) := hb0n
  have hix0 := ix0
  have hix1 := ix1
  clear H hfl hfb U0 KG hQ hb0n
  conv => arg 2; whnf
  go_wp2_with fail
  go_loopw [34] (fun t34 wr => ∃ (i : Nat) (Y4 : List SV) (fI4 : List (List Nat)), i ≤ cs.length ∧ t34 = .int .i64 i ∧ GrK lo wr bQ bS aJ (allG G (cs.take i)) J Y4 fI4 ∧ Upd (bQ :: bS :: fI.flatten) Wc wr ∧ (∀ k ∈ fI4.flatten, k ∈ fI.flatten ∨ Wc.heap.size ≤ k)) (fun a _ => cs.length - (intOf a).toNat)
  case atStart => exact ⟨0, Y, fI, by omega, rfl, by simpa [allG] using KGH.out, Upd.refl _ _, fun k hk => .inl hk⟩
  case round =>
    obtain ⟨i, Y4, fI4, hi, rfl, h1, h2, h3⟩ := hrel
    have K4 : Hid _ := h1
    have UC4 : Hid (Upd (bQ :: bS :: fI.flatten) Wc wr) := h2
    have FF4 : Hid (∀ k ∈ fI4.flatten, k ∈ fI.flatten ∨ Wc.heap.size ≤ k) := h3
    have UW4 : Hid (Upd [] w wr) := U0H.out.trans h2 (fun k hk => .inr (LOW.out k hk))
    clear h1 h2 h3
    by_cases hlt : i < cs.length
    · as_aux_lemma =>
      obtain ⟨C, hC⟩ := has_at cs hlt
      have PW := HX.out.grow UW4.out
      obtain ⟨bX, ⟨sa0, sn0, sc0⟩, ⟨sa1, sn1, sc1⟩, e1, e2, e3, e4, e5, e6', e7, e8, e9, e10, e11⟩ := PW.ch.at hC
      simp only at e4 e6'
      have hn0 : sn0 = C.a0.f.length := e10.1
      have hn1 : sn1 = C.a1.f.length := e11.1
      subst hn0 hn1
      obtain ⟨l1, l2⟩ := HFL.out C (List.mem_of_getElem? hC)
      have HC : Hid (cs[i]? = some C) := hC
      have HCM : Hid (C ∈ cs) := List.mem_of_getElem? hC
      have nF : ∀ k ∈ fR, k ∉ bQ :: bS :: fI.flatten := fun k hk hm => by have := LOW.out k hm; have := HX.out.lt k (by simp [hk]); omega
      have PC := HX.out.grow U0H.out
      obtain ⟨bX', s0', s1', x1, x2, x3, x4, x5, x6, x7, x8, x9, x10, x11⟩ := PC.ch.at hC
      rw [e3] at x3; injection x3 with x3; injection x3 with x3a x3b
      subst x3a x3b
      have RV0 : Hid (∀ (j x : Nat), C.a0.f[j]? = some x → ∃ b, sa0 = some ⟨b, 0, none⟩ ∧ b ∉ bQ :: bS :: fI.flatten ∧ Wc.cell? ⟨b, j, none⟩ = some (.int .i64 x)) := fun j x hx => by
        obtain ⟨b, q1, q2, q3⟩ := x10.2.2.2 j x hx
        exact ⟨b, q2, nF b q1, q3⟩
      have RV1 : Hid (∀ (j x : Nat), C.a1.f[j]? = some x → ∃ b, sa1 = some ⟨b, 0, none⟩ ∧ b ∉ bQ :: bS :: fI.flatten ∧ Wc.cell? ⟨b, j, none⟩ = some (.int .i64 x)) := fun j x hx => by
        obtain ⟨b, q1, q2, q3⟩ := x11.2.2.2 j x hx
        exact ⟨b, q2, nF b q1, q3⟩
      have bw := allG_wt (cs.take i) G (fun D hD => HFL.out D (List.mem_of_mem_take hD))
      have tl : (cs.take i).length ≤ 60 := by simp; omega
      have BW0 : Hid (wt (allG G (cs.take i)) < 900000) := by
        show wt (allG G (cs.take i)) < 900000
        omega
      have BW1 : Hid (wt (pickG (allG G (cs.take i)) C.a0) < 900000) := by
        have := arcsTo_wt C.a0.i C.a0.f (allG G (cs.take i))
        show wt (arcsTo (allG G (cs.take i)) C.a0.f C.a0.i) < 900000
        omega
      have hvn : v.a = some ⟨bX, 0, none⟩ := e1
      rw [hvn]
      have HVA : Hid (v.a = some ⟨bX, 0, none⟩) := hvn
      clear hC PW PC e1 e2 e3 e9 e10 e11 x1 x2 x4 x5 x6 x7 x8 x9 x10 x11 nF bw tl hvn
      go_upto_region 6 with fail
      obtain ⟨bC5, hbC5⟩ : ∃ b, b = wr.heap.size := ⟨_, rfl⟩
      obtain ⟨W5, hW5⟩ : ∃ z : World, z = wr.alloc (.cells #[.slice sa0 C.a0.f.length sc0, .int .i64 C.a0.i, .slice sa1 C.a1.f.length sc1, .int .i64 C.a1.i, .int .i64 C.way] 164) := ⟨_, rfl⟩
      have U5 : Upd [] wr W5 := by rw [hW5]; exact Upd.alloc _ _ _
      rw [← hW5]
      have K5 : Hid _ := K4.out.keep U5 (by simp) (by simp)
      have UC5 : Hid (Upd (bQ :: bS :: fI.flatten) Wc W5) := UC4.out.trans U5 (by simp)
      clear hW5 U5 hbC5 e4 e5 e6' e7 e8
      go_loopw [40] (fun t40 wx => ∃ (q : Nat) (Y5 : List SV) (fI5 : List (List Nat)), q ≤ 2 ∧ t40 = .int .i64 (q : Nat) ∧ GrK lo wx bQ bS aJ (if q = 0 then allG G (cs.take i) else if q = 1 then pickG (allG G (cs.take i)) C.a0 else pickG (pickG (allG G (cs.take i)) C.a0) C.a1) J Y5 fI5 ∧ Upd (bQ :: bS :: fI.flatten) Wc wx ∧ (∀ k ∈ fI5.flatten, k ∈ fI.flatten ∨ Wc.heap.size ≤ k)) (fun a _ => 2 - (intOf a).toNat)
      case atStart => exact ⟨0, Y4, fI4, by omega, rfl, by simpa using K5.out, UC5.out, FF4.out⟩
      case round =>
        obtain ⟨q, Y5, fI5, hq, rfl, h1, h2, h3⟩ := hrel
        have UC : Hid (Upd (bQ :: bS :: fI.flatten) Wc wr) := h2
        have FF5 : Hid (∀ k ∈ fI5.flatten, k ∈ fI.flatten ∨ Wc.heap.size ≤ k) := h3
        clear h2 h3
        have hq3 : q = 0 ∨ q = 1 ∨ q = 2 := by omega
        rcases hq3 with rfl | rfl | rfl
        · have KK5 : Hid (GrK lo wr bQ bS aJ (allG G (cs.take i)) J Y5 fI5) := by
            show GrK _ _ _ _ _ _ _ _ _
            simpa using h1
          clear h1
          as_aux_lemma =>
          obtain ⟨bL, hbL⟩ : ∃ b, b = wr.heap.size := ⟨_, rfl⟩
          rw [show (((0 : Nat) : Nat) : Int) = 0 from rfl]
          go_upto_region 8 with fail
          obtain ⟨W2, hW2⟩ : ∃ z : World, z = wr.alloc (.cells #[.slice sa0 C.a0.f.length sc0, .int .i64 C.a0.i] 161) := ⟨_, rfl⟩
          have XL : Blk W2 bL 161 #[.slice sa0 C.a0.f.length sc0, .int .i64 C.a0.i] := by rw [hW2, hbL]; exact Blk.new _ _ _
          have U2 : Upd [] wr W2 := by rw [hW2]; exact Upd.alloc _ _ _
          rw [← hW2, ← hbL]
          have c0 : W2.cell? ⟨bL, 0, none⟩ = some (.slice sa0 C.a0.f.length sc0) := XL.cell 0
          have K2 : Hid _ := KK5.out.keep U2 (by simp) (by simp)
          have UC2 : Hid (Upd (bQ :: bS :: fI.flatten) Wc W2) := UC.out.trans U2 (by simp)
          have XLH : Hid (Blk W2 bL 161 #[.slice sa0 C.a0.f.length sc0, .int .i64 C.a0.i]) := XL
          have LBL : Hid (Wc.heap.size ≤ bL) := by
            have := UC.out.size
            show Wc.heap.size ≤ bL
            omega
          have NBL : Hid (bL ∉ bS :: fI5.flatten) := fun hm => by
            have := (KK5.out.own bL (by simp only [List.mem_cons] at hm ⊢; exact .inr hm)).2
            omega
          clear hW2 hbL XL U2
          go_wp2_with fail
          clear c0
          go_loopw [46] (fun t46 wx => ∃ (r : Nat) (Y6 : List SV) (fI6 : List (List Nat)), r ≤ C.a0.f.length ∧ t46 = .int .i64 r ∧ GrK lo wx bQ bS aJ (arcsTo (allG G (cs.take i)) (C.a0.f.take r) C.a0.i) J Y6 fI6 ∧ Upd (bQ :: bS :: fI.flatten) Wc wx ∧ (∀ k ∈ fI6.flatten, k ∈ fI.flatten ∨ Wc.heap.size ≤ k) ∧ Blk wx bL 161 #[.slice sa0 C.a0.f.length sc0, .int .i64 C.a0.i] ∧ bL ∉ bS :: fI6.flatten) (fun a _ => C.a0.f.length - (intOf a).toNat)
          case atStart => exact ⟨0, Y5, fI5, by omega, rfl, by simpa [arcsTo] using K2.out, UC2.out, FF5.out, XLH.out, NBL.out⟩
          case round =>
            obtain ⟨r, Y6, fI6, hr, rfl, i1, i2, i3, i4, i5⟩ := hrel
            have K6 : Hid _ := i1
            have UC6 : Hid (Upd (bQ :: bS :: fI.flatten) Wc wr) := i2
            have FF6 : Hid (∀ k ∈ fI6.flatten, k ∈ fI.flatten ∨ Wc.heap.size ≤ k) := i3
            have XL6 : Hid (Blk wr bL 161 #[.slice sa0 C.a0.f.length sc0, .int .i64 C.a0.i]) := i4
            have NB6 : Hid (bL ∉ bS :: fI6.flatten) := i5
            by_cases hlt3 : r < C.a0.f.length
            · as_aux_lemma =>
              obtain ⟨t, ht⟩ := has_at C.a0.f hlt3
              obtain ⟨bf, z1, z2, z4⟩ := RV0.out r t ht
              subst z1
              have z3 := i2.cell z4 z2
              have c1 : wr.cell? ⟨bL, 1, none⟩ = some (.int .i64 C.a0.i) := i4.cell 1
              have htG := HFB.out C HCM.out 0 t (by simpa using List.mem_of_getElem? ht)
              have hwb := HWT.out ((allG G (cs.take i))) (C.a0.f.take r) C.a0.i BW0.out (by simp; omega)
              have KA : Hid _ := addArcK i1 t C.a0.i (by rw [arcsTo_len, allG_len]; exact htG) (by rw [arcsTo_len, allG_len]; omega) hwb
              have FT : Hid (C.a0.f[r]? = some t) := ht
              clear i1 i2 i3 i4 i5 ht z4 htG hwb
              go_wp2_with fail
              refine Calls.mono KA.out ?_
              rintro e w6 ⟨rfl, Y7, fI7, p1, p2, p3⟩
              have P1 : Hid _ := p1
              have zz := UC6.out.size
              have U7 : Hid (Upd (bQ :: bS :: fI.flatten) Wc w6) := UC6.out.trans p2 (fun k hk => by
                simp only [List.mem_cons] at hk ⊢
                rcases hk with hk | hk
                · exact .inl (.inr (.inl hk))
                · exact (FF6.out k hk).imp (fun z => .inr (.inr z)) id)
              have F7 : Hid (∀ k ∈ fI7.flatten, k ∈ fI.flatten ∨ Wc.heap.size ≤ k) := fun k hk => by
                rcases p3 k hk with z | z
                · exact FF6.out k z
                · exact .inr (by omega)
              have X7 : Hid (Blk w6 bL 161 #[.slice (some ⟨bf, 0, none⟩) C.a0.f.length sc0, .int .i64 C.a0.i]) := Blk.keep XL6.out p2 NB6.out
              have bLl : bL < wr.heap.size := Blk.lt XL6.out
              have N7 : Hid (bL ∉ bS :: fI7.flatten) := fun hm => by
                simp only [List.mem_cons] at hm
                rcases hm with hm | hm
                · exact NB6.out (by simp [hm])
                · rcases p3 bL hm with z | z
                  · exact NB6.out (by simp only [List.mem_cons]; exact .inr z)
                  · omega
              clear p1 p2 p3 KA z3 c1
              go_wp2_with fail
              have e9 : arcsTo (allG G (cs.take i)) (C.a0.f.take (r + 1)) C.a0.i = arc (arcsTo (allG G (cs.take i)) (C.a0.f.take r) C.a0.i) t C.a0.i := by
                rw [List.take_add_one, FT.out]
                simp [arcsTo]
              exact ⟨⟨r + 1, Y7, fI7, by omega, by go_num, by rw [e9]; exact P1.out, U7.out, F7.out, X7.out, N7.out⟩, by simp [intOf] <;> omega⟩
            · as_aux_lemma =>
              have hr2 : r = C.a0.f.length := by omega
              have KN : Hid (GrK lo wr bQ bS aJ (pickG (allG G (cs.take i)) C.a0) J Y6 fI6) := by
                have := K6.out
                rw [hr2, List.take_length] at this
                exact this
              clear i1 i2 i3 i4 i5
              go_wp2_with fail
              exact ⟨⟨1, Y6, fI6, by omega, by go_num, by simpa using KN.out, UC6.out, FF6.out⟩, by simp [intOf]⟩
        · have KK5 : Hid (GrK lo wr bQ bS aJ (pickG (allG G (cs.take i)) C.a0) J Y5 fI5) := by
            show GrK _ _ _ _ _ _ _ _ _
            simpa using h1
          clear h1
          as_aux_lemma =>
          obtain ⟨bL, hbL⟩ : ∃ b, b = wr.heap.size := ⟨_, rfl⟩
          rw [show (((1 : Nat) : Nat) : Int) = 1 from rfl]
          go_upto_region 8 with fail
          obtain ⟨W2, hW2⟩ : ∃ z : World, z = wr.alloc (.cells #[.slice sa1 C.a1.f.length sc1, .int .i64 C.a1.i] 161) := ⟨_, rfl⟩
          have XL : Blk W2 bL 161 #[.slice sa1 C.a1.f.length sc1, .int .i64 C.a1.i] := by rw [hW2, hbL]; exact Blk.new _ _ _
          have U2 : Upd [] wr W2 := by rw [hW2]; exact Upd.alloc _ _ _
          rw [← hW2, ← hbL]
          have c0 : W2.cell? ⟨bL, 0, none⟩ = some (.slice sa1 C.a1.f.length sc1) := XL.cell 0
          have K2 : Hid _ := KK5.out.keep U2 (by simp) (by simp)
          have UC2 : Hid (Upd (bQ :: bS :: fI.flatten) Wc W2) := UC.out.trans U2 (by simp)
          have XLH : Hid (Blk W2 bL 161 #[.slice sa1 C.a1.f.length sc1, .int .i64 C.a1.i]) := XL
          have LBL : Hid (Wc.heap.size ≤ bL) := by
            have := UC.out.size
            show Wc.heap.size ≤ bL
            omega
          have NBL : Hid (bL ∉ bS :: fI5.flatten) := fun hm => by
            have := (KK5.out.own bL (by simp only [List.mem_cons] at hm ⊢; exact .inr hm)).2
            omega
          clear hW2 hbL XL U2
          go_wp2_with fail
          clear c0
          go_loopw [46] (fun t46 wx => ∃ (r : Nat) (Y6 : List SV) (fI6 : List (List Nat)), r ≤ C.a1.f.length ∧ t46 = .int .i64 r ∧ GrK lo wx bQ bS aJ (arcsTo (pickG (allG G (cs.take i)) C.a0) (C.a1.f.take r) C.a1.i) J Y6 fI6 ∧ Upd (bQ :: bS :: fI.flatten) Wc wx ∧ (∀ k ∈ fI6.flatten, k ∈ fI.flatten ∨ Wc.heap.size ≤ k) ∧ Blk wx bL 161 #[.slice sa1 C.a1.f.length sc1, .int .i64 C.a1.i] ∧ bL ∉ bS :: fI6.flatten) (fun a _ => C.a1.f.length - (intOf a).toNat)
          case atStart => exact ⟨0, Y5, fI5, by omega, rfl, by simpa [arcsTo] using K2.out, UC2.out, FF5.out, XLH.out, NBL.out⟩
          case round =>
            obtain ⟨r, Y6, fI6, hr, rfl, i1, i2, i3, i4, i5⟩ := hrel
            have K6 : Hid _ := i1
            have UC6 : Hid (Upd (bQ :: bS :: fI.flatten) Wc wr) := i2
            have FF6 : Hid (∀ k ∈ fI6.flatten, k ∈ fI.flatten ∨ Wc.heap.size ≤ k) := i3
            have XL6 : Hid (Blk wr bL 161 #[.slice sa1 C.a1.f.length sc1, .int .i64 C.a1.i]) := i4
            have NB6 : Hid (bL ∉ bS :: fI6.flatten) := i5
            by_cases hlt3 : r < C.a1.f.length
            · as_aux_lemma =>
              obtain ⟨t, ht⟩ := has_at C.a1.f hlt3
              obtain ⟨bf, z1, z2, z4⟩ := RV1.out r t ht
              subst z1
              have z3 := i2.cell z4 z2
              have c1 : wr.cell? ⟨bL, 1, none⟩ = some (.int .i64 C.a1.i) := i4.cell 1
              have htG := HFB.out C HCM.out 1 t (by simpa using List.mem_of_getElem? ht)
              have hwb := HWT.out ((pickG (allG G (cs.take i)) C.a0)) (C.a1.f.take r) C.a1.i BW1.out (by simp; omega)
              have KA : Hid _ := addArcK i1 t C.a1.i (by rw [arcsTo_len, pick_len, allG_len]; exact htG) (by rw [arcsTo_len, pick_len, allG_len]; omega) hwb
              have FT : Hid (C.a1.f[r]? = some t) := ht
              clear i1 i2 i3 i4 i5 ht z4 htG hwb
              go_wp2_with fail
              refine Calls.mono KA.out ?_
              rintro e w6 ⟨rfl, Y7, fI7, p1, p2, p3⟩
              have P1 : Hid _ := p1
              have zz := UC6.out.size
              have U7 : Hid (Upd (bQ :: bS :: fI.flatten) Wc w6) := UC6.out.trans p2 (fun k hk => by
                simp only [List.mem_cons] at hk ⊢
                rcases hk with hk | hk
                · exact .inl (.inr (.inl hk))
                · exact (FF6.out k hk).imp (fun z => .inr (.inr z)) id)
              have F7 : Hid (∀ k ∈ fI7.flatten, k ∈ fI.flatten ∨ Wc.heap.size ≤ k) := fun k hk => by
                rcases p3 k hk with z | z
                · exact FF6.out k z
                · exact .inr (by omega)
              have X7 : Hid (Blk w6 bL 161 #[.slice (some ⟨bf, 0, none⟩) C.a1.f.length sc1, .int .i64 C.a1.i]) := Blk.keep XL6.out p2 NB6.out
              have bLl : bL < wr.heap.size := Blk.lt XL6.out
              have N7 : Hid (bL ∉ bS :: fI7.flatten) := fun hm => by
                simp only [List.mem_cons] at hm
                rcases hm with hm | hm
                · exact NB6.out (by simp [hm])
                · rcases p3 bL hm with z | z
                  · exact NB6.out (by simp only [List.mem_cons]; exact .inr z)
                  · omega
              clear p1 p2 p3 KA z3 c1
              go_wp2_with fail
              have e9 : arcsTo (pickG (allG G (cs.take i)) C.a0) (C.a1.f.take (r + 1)) C.a1.i = arc (arcsTo (pickG (allG G (cs.take i)) C.a0) (C.a1.f.take r) C.a1.i) t C.a1.i := by
                rw [List.take_add_one, FT.out]
                simp [arcsTo]
              exact ⟨⟨r + 1, Y7, fI7, by omega, by go_num, by rw [e9]; exact P1.out, U7.out, F7.out, X7.out, N7.out⟩, by simp [intOf] <;> omega⟩
            · as_aux_lemma =>
              have hr2 : r = C.a1.f.length := by omega
              have KN : Hid (GrK lo wr bQ bS aJ (pickG (pickG (allG G (cs.take i)) C.a0) C.a1) J Y6 fI6) := by
                have := K6.out
                rw [hr2, List.take_length] at this
                exact this
              clear i1 i2 i3 i4 i5
              go_wp2_with fail
              exact ⟨⟨2, Y6, fI6, by omega, by go_num, by simpa using KN.out, UC6.out, FF6.out⟩, by simp [intOf]⟩
        · as_aux_lemma =>
          have KF : Hid (GrK lo wr bQ bS aJ (allG G (cs.take (i + 1))) J Y5 fI5) := by
            show GrK _ _ _ _ _ _ _ _ _
            rw [List.take_add_one, HC.out, Option.toList_some, allG_snoc]
            simpa using h1
          clear h1
          go_wp2_with fail
          exact ⟨⟨i + 1, Y5, fI5, by omega, by go_num, KF.out, UC.out, FF5.out⟩, by simp [intOf] <;> omega⟩
    · as_aux_lemma =>
      have hi2 : i = cs.length := by omega
      have KF : Hid (GrK lo wr bQ bS aJ (allG G cs) J Y4 fI4) := by
        have := K4.out
        rw [hi2, List.take_length] at this
        exact this
      go_wp2_with fail
      exact HQ.out Y4 fI4 wr KF.out UC4.out FF4.out
end Go.Proofs.YbulkctquGreatFmt

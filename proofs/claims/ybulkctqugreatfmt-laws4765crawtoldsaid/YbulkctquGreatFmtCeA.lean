/-
  CertifySessions, on a history that is serial: its end.
-/
import Derived.Test.YbulkctquGreatFmtSea
import Derived.Test.YbulkctquGreatFmtNspX
import Derived.Test.YbulkctquGreatFmtMis
import Derived.Test.YbulkctquGreatFmtTexts
import Derived.Deep.RegionWith
import Derived.BigQuiet
import Derived.Laws.Rows
import Derived.Deep.DeepCutAuto
namespace Go.Proofs.YbulkctquGreatFmt
open Go.ChangeShapes Go.WideShapes Go.ChangeAt Go.RowKit Go.Ord
set_option linter.unusedVariables false
attribute [-go_sem] Go.Builtin.append_ Go.Instr.buildSlice

def headIs (n : Nat) : Code → Bool
  | .region k _ _ => k == n
  | .seq x _ => headIs n x
  | _ => false
def fromHead (n : Nat) : Code → Option Code
  | .seq x y => if headIs n x then some (.seq x y) else match fromHead n x with
    | some c => some c
    | none => fromHead n y
  | .loop c => fromHead n c
  | .block _ c => fromHead n c
  | .scope c => fromHead n c
  | .cond _ a b => match fromHead n a with
    | some c => some c
    | none => fromHead n b
  | _ => none
noncomputable def q17 : Code := ((Ybaz.f6.body.bind (fromHead 17)).getD .skip)
/-- The verdict while the names are gathered. -/
structure VT (bV : Nat) (vA vB : SV) (A B : List (List UInt8)) (fA fB : List Nat) (w : World) : Prop where
  blk : Blk w bV 47 #[.slice vA.a vA.n vA.c, .slice vB.a vB.n vB.c, .bool false, .slice none 0 0, .pointer none, .slice none 0 0, .slice none 0 0, .slice none 0 0]
  sA : Sl w 9 1 vA.a vA.n vA.c fA (A.map strV)
  sB : Sl w 9 1 vB.a vB.n vB.c fB (B.map strV)
  nd : (bV :: (fA ++ fB)).Nodup
theorem results6 (tmps : Array Value) (w : World) (g : Nat) (cs : Array Value) (v3 : Value) (hp : tmps.getD 2 undef = .pointer (some ⟨g, 0, none⟩)) (h3 : tmps.getD 3 undef = v3) (hg : w.heap[g]? = some (.cells cs 47 (0, 0))) (hi : (Ybaz.prog.info? 47).map (·.size) = some cs.size) :
    (results Ybaz.f6 tmps).run Ybaz.prog w = .ok (.tuple #[.agg cs, v3]) w := by
  have hp' : tmps[2]?.getD undef = .pointer (some ⟨g, 0, none⟩) := by simpa using hp
  have h3' : tmps[3]?.getD undef = v3 := by simpa using h3
  simp [results, hp', h3', asAddr, run_loadVar_row w g 47 47 cs (0, 0) _ hg Ybaz.underlying47 rfl hi]
theorem updCells (b : Nat) : ∀ (vs : List Value) (o : Nat) (w : World), Upd [b] w (w.setCells b o vs)
  | [], _, w => Upd.refl _ _
  | v :: vs, o, w => (Upd.store w b o v).trans (updCells b vs (o + 1) _) (by simp)
/-- What CertifySessions answers. -/
def CertPost (w : World) (hs : List (List Tx)) (T : Nat → Nat → Nat) : Ending → World → Prop := fun e w' =>
  ∃ (vA vB : SV) (g c : Nat) (P : List Nat) (F : Nat → Option Wr) (A : List Rk) (zs : List Nat) (NM : Nat × Nat → Option Nat) (vars vers : List Nat) (os : List Ob) (ss : List Sr) (fa : List Int) (ows G : List (List Nat)) (J : List Bool),
    e = .returned (.tuple #[.agg #[.slice vA.a vA.n vA.c, .slice vB.a vB.n vB.c, .bool true, .slice (some ⟨g, 0, none⟩) P.length c, .pointer none, .slice none 0 0, .slice none 0 0, .slice none 0 0], .nilIface]) ∧
      Two w w' vA vB (allN 0 hs) (allA 0 hs) ∧ NP hs F A zs NM vars vers os ss fa ows G J ∧ WF hs F ∧ PO hs A zs T ss P ∧ Sl w' 9 1 (some ⟨g, 0, none⟩) P.length c [g] ((nmsOf (nmsAt A zs A.length) P).map strV) ∧ w.heap.size ≤ g
theorem nmsAt_full {A : List Rk} {zs : List Nat} (hp : zs.Perm (List.range A.length)) : (nmsAt A zs A.length).length = A.length := by
  have := hp.length_eq
  simp at this
  simp [nmsAt, ats, this]
/-- Every source's writer is among its object's. -/
theorem NP.ofW {hs : List (List Tx)} {F : Nat → Option Wr} {A : List Rk} {zs : List Nat} {NM : Nat × Nat → Option Nat} {vars vers : List Nat} {os : List Ob} {ss : List Sr} {fa : List Int} {ows G : List (List Nat)} {J : List Bool} (N : NP hs F A zs NM vars vers os ss fa ows G J) {s : Sr} (hs' : s ∈ ss) : ∃ o, os[s.ob]? = some o ∧ s.wr ∈ o.wr := by
  obtain ⟨om, sm, c, Ge, G0, E, _⟩ := N.ei
  obtain ⟨k, hk⟩ := List.getElem?_of_mem hs'
  obtain ⟨r, hr⟩ := has_at vers (k := k) (by rw [E.lenS]; exact (List.getElem?_eq_some_iff.mp hk).1)
  obtain ⟨⟨q, x, a1, a2, a3, a4, a5, a6, a7⟩, b1, b2⟩ := E.srI k s r hk hr
  obtain ⟨n1, n2⟩ := N.nmi.fwd _ _ a2
  obtain ⟨o, ho⟩ := has_at os (k := s.ob) (by rw [← E.lenO]; exact (List.getElem?_eq_some_iff.mp a6).1)
  refine ⟨o, ho, ?_⟩
  obtain ⟨c1, _⟩ := E.obI s.ob o x.x ho a6
  refine (c1 s.wr).mpr ⟨q.e, x, .inl n1, ⟨(q.s, q.k), n2, a3⟩, a4, rfl, q, by rw [a5]; exact a1, a7⟩
set_option maxHeartbeats 16000000 in
set_option maxRecDepth 100000 in
theorem cert17 {u0 u3 u5 u7 u8 u9 u10 u11 u12 u13 u14 u15 u16 u17 u18 u19 u20 u21 u22 u23 u24 u25 u26 u27 u28 u29 u30 u31 u32 u33 u34 u35 u36 u37 u38 u39 u40 u41 u42 u43 u44 u45 u46 u47 u48 u49 u50 u51 u52 u53 u54 u55 u56 u57 u58 u59 u60 u61 u62 u63 u64 u65 u66 u67 u68 u69 u70 u71 u72 u73 u74 u75 u76 u77 u78 u79 u80 u81 u82 u83 u84 u85 u86 u87 u88 u89 u90 u91 u92 u93 u94 u95 u96 u97 u98 u99 u100 u101 u102 u103 u104 u105 u106 u107 u108 u109 u110 u111 u112 u113 u114 u115 u116 u117 u118 u119 u120 u121 u122 u123 u124 u125 u126 u127 u128 u129 u130 u131 u132 u133 u134 u135 u136 u137 u138 u139 u140 u141 u142 u143 u144 u145 u146 u147 u148 u149 u150 u151 u152 u153 u154 u155 u156 u157 u158 u159 u160 u161 u162 u163 u164 u165 u166 u167 u168 u169 u170 u171 u172 u173 u174 u175 u176 u177 u178 u179 u180 u181 u182 u183 u184 u185 u186 u187 u188 u189 u190 u191 u192 u193 u194 u195 u196 u197 u198 u199 : Value} (w : World) (R : HR) (hs : List (List Tx)) (T : Nat → Nat → Nat) (cap : Nat) (H : HistE w R hs) (S : Ser hs T) (F : Nat → Option Wr) (W : WF hs F) (b0 b1 bm bV : Nat) (vA vB : SV) (fA fB : List Nat) (wr : World) (B0 : Below w.heap.size w wr)
    (K14 : ∀ w1, HistE w1 R hs → MapAt w1 (ik .u64) bm (fun v => (F v).map Wr.val) → Calls Ybaz.prog 14 #[.agg #[.slice (some ⟨R.top, 0, none⟩) hs.length cap], .map (some bm)] w1 (NspPostR w1 hs F))
    (MF0 : MapAt wr (ik .u64) bm (fun v => (F v).map Wr.val)) (cB : wr.cell? ⟨b0, 0, none⟩ = some (.slice (some ⟨R.top, 0, none⟩) hs.length cap)) (k1 : Blk wr b1 47 #[.slice none 0 0, .slice none 0 0, .bool false, .slice none 0 0, .pointer none, .slice none 0 0, .slice none 0 0, .slice none 0 0]) (V0 : VT bV vA vB (allN 0 hs) (allA 0 hs) fA fB wr) (lA : vA.n = (allN 0 hs).length) (lB : vB.n = (allA 0 hs).length)
    (n0 : b0 ≠ bV) (n1 : b1 ≠ bV) (nm : bm ≠ bV) (n1f : b1 ∉ fA ∧ b1 ∉ fB) (hgV : w.heap.size ≤ bV) (hg1 : w.heap.size ≤ b1) (hgF : ∀ k ∈ fA ++ fB, w.heap.size ≤ k) :
    q17.wp Ybaz.prog (bodyPost Ybaz.prog Ybaz.f6 (CertPost w hs T)) ⟨[u0, .pointer (some ⟨b0, 0, none⟩), .pointer (some ⟨b1, 0, none⟩), u3, .map (some bm), u5, .pointer (some ⟨bV, 0, none⟩), u7, u8, u9, u10, u11, u12, u13, u14, u15, u16, u17, u18, u19, u20, u21, u22, u23, u24, u25, u26, u27, u28, u29, u30, u31, u32, u33, u34, u35, u36, u37, u38, u39, u40, u41, u42, u43, u44, u45, u46, u47, u48, u49, u50, u51, u52, u53, u54, u55, u56, u57, u58, u59, u60, u61, u62, u63, u64, u65, u66, u67, u68, u69, u70, u71, u72, u73, u74, u75, u76, u77, u78, u79, u80, u81, u82, u83, u84, u85, u86, u87, u88, u89, u90, u91, u92, u93, u94, u95, u96, u97, u98, u99, u100, u101, u102, u103, u104, u105, u106, u107, u108, u109, u110, u111, u112, u113, u114, u115, u116, u117, u118, u119, u120, u121, u122, u123, u124, u125, u126, u127, u128, u129, u130, u131, u132, u133, u134, u135, u136, u137, u138, u139, u140, u141, u142, u143, u144, u145, u146, u147, u148, u149, u150, u151, u152, u153, u154, u155, u156, u157, u158, u159, u160, u161, u162, u163, u164, u165, u166, u167, u168, u169, u170, u171, u172, u173, u174, u175, u176, u177, u178, u179, u180, u181, u182, u183, u184, u185, u186, u187, u188, u189, u190, u191, u192, u193, u194, u195, u196, u197, u198, u199].toArray, []⟩ wr := by
  have HH : Hid _ := H
  have SS : Hid _ := S
  have WW : Hid _ := W
  have BB : Hid (Below w.heap.size w wr) := B0
  have VH : Hid _ := V0
  have KB1 : Hid (Blk wr b1 47 #[.slice none 0 0, .slice none 0 0, .bool false, .slice none 0 0, .pointer none, .slice none 0 0, .slice none 0 0, .slice none 0 0]) := k1
  have CB : Hid (wr.cell? ⟨b0, 0, none⟩ = some (.slice (some ⟨R.top, 0, none⟩) hs.length cap)) := cB
  have N14 : Hid (∀ w1, HistE w1 R hs → MapAt w1 (ik .u64) bm (fun v => (F v).map Wr.val) → Calls Ybaz.prog 14 #[.agg #[.slice (some ⟨R.top, 0, none⟩) hs.length cap], .map (some bm)] w1 (NspPostR w1 hs F)) := K14
  have K13 : Hid _ := misread13 wr R hs (H.below B0) S.hok cap bm F MF0 W S.rok
  have MH : Hid _ := MF0
  have GF : Hid (∀ k ∈ fA ++ fB, w.heap.size ≤ k) := hgF
  have hbV : bV < wr.heap.size := V0.blk.lt
  have hb1 : b1 < wr.heap.size := k1.lt
  have hb0 : b0 < wr.heap.size := World.block_lt_of_cell? _ _ cB
  clear H S W B0 V0 k1 K14 MF0 hgF
  conv => arg 2; whnf
  go_wp2_with fail
  refine Calls.mono K13.out ?_
  rintro e' w1 ⟨rfl, B1⟩
  have U1 : Upd [] wr w1 := upd_below B1
  have kV1 : Blk w1 bV 47 #[.slice vA.a vA.n vA.c, .slice vB.a vB.n vB.c, .bool false, .slice none 0 0, .pointer none, .slice none 0 0, .slice none 0 0, .slice none 0 0] := VH.out.blk.keep U1 (by simp)
  have v4 : w1.cell? ⟨bV, 4, none⟩ = some (.pointer none) := kV1.cell 4
  have f4 : w1.frozen? ⟨bV, 4, none⟩ = false := kV1.free 4
  have UH1 : Hid (Upd [] wr w1) := U1
  clear U1 K13 cB
  go_upto_region 18 with fail
  obtain ⟨W2, hW2⟩ : ∃ z : World, z = w1.setCell ⟨bV, 4, none⟩ (.pointer none) := ⟨_, rfl⟩
  have U2 : Upd [bV] wr W2 := by rw [hW2]; exact (UH1.out.mono (by simp)).trans (Upd.store _ _ _ _) (by simp)
  have kV2 : Blk W2 bV 47 #[.slice vA.a vA.n vA.c, .slice vB.a vB.n vB.c, .bool false, .slice none 0 0, .pointer none, .slice none 0 0, .slice none 0 0, .slice none 0 0] := by rw [hW2]; have := kV1.store 4 (.pointer none); simpa using this
  rw [← hW2]
  have KV2 : Hid (Blk W2 bV 47 #[.slice vA.a vA.n vA.c, .slice vB.a vB.n vB.c, .bool false, .slice none 0 0, .pointer none, .slice none 0 0, .slice none 0 0, .slice none 0 0]) := kV2
  have UH2 : Hid (Upd [bV] wr W2) := U2
  have v4 : W2.cell? ⟨bV, 4, none⟩ = some (.pointer none) := kV2.cell 4
  have cB2 : W2.cell? ⟨b0, 0, none⟩ = some (.slice (some ⟨R.top, 0, none⟩) hs.length cap) := U2.cell CB.out (by simpa using n0)
  have K14b : Hid (Calls Ybaz.prog 14 #[.agg #[.slice (some ⟨R.top, 0, none⟩) hs.length cap], .map (some bm)] W2 (NspPostR W2 hs F)) := N14.out W2 (HH.out.below (BB.out.trans (U2.below BB.out.size (by simp; omega)))) (MH.out.keep U2 (by simpa using nm))
  clear hW2 U2 kV1 kV2 f4 B1 N14 UH1
  go_wp2_with fail
  refine Calls.mono K14b.out ?_
  rintro e' w3 ⟨A, zs, NM, vars, vers, os, ss, fa, ows, G, J, bN, bF, g, sg, og, rfl, NP0, PG0, nm4, B3, hgN, hgP, hnP, hGl, hGw, hol, hsl, hAl, hRN⟩
  have NH : Hid _ := NP0
  have PGH : Hid _ := PG0
  have NMH : Hid (NamesAt bN A.length (nmsAt A zs A.length) w3) := nm4
  have UH3 : Hid (Upd [] W2 w3) := upd_below B3
  have RNH : Hid (∀ s ∈ ss, s.rd ≠ []) := hRN
  have hsz3 := B3.size
  have hsz2 := UH2.out.size
  clear NP0 PG0 nm4 B3 hgP hnP hRN K14b v4 cB2
  go_upto_region 21 with fail
  obtain ⟨b12, hb12⟩ : ∃ z, z = w3.heap.size := ⟨_, rfl⟩
  obtain ⟨W4, hW4⟩ : ∃ z : World, z = w3.alloc (.cells #[.pointer (some ⟨bN + 1, 0, none⟩)] 79) := ⟨_, rfl⟩
  have U34 : Upd [] w3 W4 := by rw [hW4]; exact Upd.alloc _ _ _
  have c12 : W4.cell? ⟨b12, 0, none⟩ = some (.pointer (some ⟨bN + 1, 0, none⟩)) := by rw [hW4, hb12]; exact (Blk.new w3 #[.pointer (some ⟨bN + 1, 0, none⟩)] 79).cell 0
  have PG4 : Poly (bN + 1) bN bF A.length g G J sg ss og os W4 := Poly.keeps _ _ _ _ _ _ _ _ _ _ _ _ _ [] PGH.out U34 (by simp)
  have NM4 : Hid (NamesAt bN A.length (nmsAt A zs A.length) W4) := NamesAt.keeps _ _ _ _ _ [] NMH.out U34 (by simp)
  have PGH4 : Hid _ := PG4
  have UH4 : Hid (Upd [bV] wr W4) := UH2.out.trans (UH3.out.trans U34 (by simp)) (by simp)
  have KV4 : Hid (Blk W4 bV 47 #[.slice vA.a vA.n vA.c, .slice vB.a vB.n vB.c, .bool false, .slice none 0 0, .pointer none, .slice none 0 0, .slice none 0 0, .slice none 0 0]) := (KV2.out.keep UH3.out (by simp)).keep U34 (by simp)
  have C12 : Hid (W4.cell? ⟨b12, 0, none⟩ = some (.pointer (some ⟨bN + 1, 0, none⟩))) := c12
  rw [← hW4, ← hb12]
  obtain ⟨τ, _, hτ⟩ := (NH.out.fwd SS.out WW.out).tau
  have HT : Hid (∀ u r, G[u]? = some r → ∀ x ∈ r, x < G.length ∧ τ u < τ x) := fun u r h x hx => hτ u x ⟨r, h, hx⟩
  have hmG : A.length ≤ G.length := (NH.out.fwd SS.out WW.out).len
  have KC : Hid _ := comp15 W4 (bN + 1) 2 G J PG4.gr.read τ HT.out hGl hGw
  clear hW4 hb12 hτ PG4 PGH NMH KV2 UH2 UH3 U34 hsz3 hsz2
  go_wp2_with fail
  refine Calls.mono KC.out ?_
  rintro e' w5 ⟨vS, cmp, siz, fS, rfl, s1, s2, s3, s4, s5, B5⟩
  have U5 : Upd [] W4 w5 := upd_below B5
  have UH5 : Hid (Upd [] W4 w5) := U5
  have S1 : Hid (Sl w5 3 1 (some ⟨W4.heap.size + 4, 0, none⟩) G.length G.length [W4.heap.size + 4] (cmp.map iI)) := s1
  have S2 : Hid (Sl w5 3 1 vS.a vS.n vS.c fS (siz.map nI)) := s2
  have S3 : Hid (∀ x, x < G.length → ∃ c : Nat, cmp[x]? = some (c : Int) ∧ c < siz.length) := s3
  have S4 : Hid (∀ s ∈ siz, s = 1) := s4
  have hsn : vS.n = siz.length := by have := s2.len; simpa using this.symm
  have c12 : w5.cell? ⟨b12, 0, none⟩ = some (.pointer (some ⟨bN + 1, 0, none⟩)) := U5.cell C12.out (by simp)
  have d0 : w5.cell? ⟨bN + 1, 0, none⟩ = some (.slice (some ⟨bN, 0, none⟩) A.length A.length) := U5.cell (PGH4.out.cell (j := 0) rfl).1 (by simp)
  have C125 : Hid (w5.cell? ⟨b12, 0, none⟩ = some (.pointer (some ⟨bN + 1, 0, none⟩))) := c12
  have D0 : Hid (w5.cell? ⟨bN + 1, 0, none⟩ = some (.slice (some ⟨bN, 0, none⟩) A.length A.length)) := d0
  clear s1 s2 s3 s4 s5 B5 U5 KC
  go_wp2_with fail
  clear c12 d0
  refine wp_loopC [none, none, none, none, none, none, none, none, none, none, none, none, none, none, none, none, some (some true), some none, none, none, none, none, none, none, none, none, none, none, none, none, none, none, none, none, none, none, none, none, none, none, none, none, none, none, none, none, none, none, none, none, none, none, none, none, none, none, none, none, none, none, none, none, none, none, none, none, none, none, none, none, none, none, none, none, none, none, none, none, none, none, none, none, none, none, none, none, none, none, none, none, none, none, none, some (some false), some none, some none, some none, some none, some none, some none, some none, some none, some none, some none, some none, some none, some none, some none, some none, some none, some none, some none, some none, some none, some none, some none, some none, some none, some none, some none, some none, some none, some none, some none, some none, some none, some none, none, none, none, none, none, none, none, none, none, none, none, none, none, none, none, none, none, none, none, none, none, none, none, none, none, none, none, none, none, none, none, none, none, none, none, none, none, none, none, none, none, none, none, none, none, none, none, none, none, none, none, none, none, none, none, none, none, none, none, none, none, none, none, none, none, none, none, none, none, none, none, none, none] (fun n3 t93 t16 wx => ∃ (t q : Nat), t ≤ A.length ∧ n3 = A.length - t ∧ t93 = .int .i64 t ∧ t16 = .int .i64 (-1) ∧ wx = w5.drewN q) A.length (.int .i64 0) (.int .i64 (-1)) rfl ⟨0, 0, by omega, by omega, rfl, rfl, rfl⟩ ?_
  intro n3 uu x3 y3 wx J3 K3 hrel hJ3 hK3
  obtain ⟨t, q, ht1, rfl, rfl, rfl, hwx⟩ := hrel
  have HJ3 : Hid _ := hJ3
  have HWX : Hid (wx = w5.drewN q) := hwx
  have UX : Upd [] w5 wx := by rw [hwx]; exact Upd.drewN _ _ _
  have UXH : Hid (Upd [] w5 wx) := UX
  clear hJ3 hwx
  dsimp only [fillC, Nat.reduceAdd]
  by_cases hltt : t < A.length
  · as_aux_lemma =>
    obtain ⟨c, hc1, hc2⟩ := S3.out t (by omega)
    obtain ⟨cb, e1, _, e3⟩ := S1.out.get (j := t) (v := iI c) (by simp [hc1])
    injection e1 with e1
    injection e1 with e1
    subst e1
    obtain ⟨sc, hsc⟩ := has_at siz hc2
    have hs1 := S4.out sc (List.mem_of_getElem? hsc)
    subst hs1
    obtain ⟨sb, f1, _, f3⟩ := S2.out.get (j := c) (v := nI 1) (by simp [hsc])
    have g1 : wx.cell? ⟨W4.heap.size + 4, t, none⟩ = some (.int .i64 c) := UX.cell e3 (by simp)
    have g2 : wx.cell? ⟨sb, c, none⟩ = some (.int .i64 1) := UX.cell f3 (by simp)
    have SA : Hid (vS.a = some ⟨sb, 0, none⟩) := f1
    rw [f1]
    have htG : t < G.length := by omega
    clear e3 f3 hc1 hsc UX f1 hsn
    go_upto_region 26 with fail
    go_big_quiet (fail)
    go_wp2_with fail
    refine Met.intro ?_
    have HJ5 := HJ3.out
    rw [SA.out] at HJ5
    refine HJ5 _ _ ?_
    refine EndC.of (A.length - (t + 1)) (.int .i64 ((t : Int) + 1)) (.int .i64 (-1)) ?_ (by omega) ?_
    · rfl
    refine ⟨t + 1, q + nq, by omega, rfl, by go_num, rfl, ?_⟩
    rw [HWX.out]
    simp [World.drewN, Nat.add_assoc]
  · as_aux_lemma =>
    have c12 : wx.cell? ⟨b12, 0, none⟩ = some (.pointer (some ⟨bN + 1, 0, none⟩)) := UX.cell C125.out (by simp)
    have U4x : Upd [] W4 wx := UH5.out.trans UX (by simp)
    have PG6 : Poly (bN + 1) bN bF A.length g G J sg ss og os wx := Poly.keeps _ _ _ _ _ _ _ _ _ _ _ _ _ [] PGH4.out U4x (by simp)
    have KS : Hid _ := search21 wx (bN + 1) A.length bN bF hAl g G J sg ss og os PG6 τ HT.out hGl hGw (fun o ho => by
        obtain ⟨x, hx⟩ := List.getElem?_of_mem ho
        obtain ⟨y, _, q2, _, _, q5, _⟩ := NH.out.obj hx
        have q6 : ∀ t ∈ o.wr, t < A.length := fun t ht => by obtain ⟨_, _, _, r1, _⟩ := q5 t ht; exact r1
        exact ⟨q6, q2, nodup_len _ _ q2 q6⟩) (fun s hs' => by
        obtain ⟨x, hx⟩ := List.getElem?_of_mem hs'
        obtain ⟨a, b, e, x', a1, a2, a3, a4, a5, a6, a7⟩ := NH.out.src SS.out WW.out hx
        have q6 : ∀ t ∈ s.rd, t < A.length := fun t ht => by obtain ⟨_, _, _, r1, _⟩ := a7 t ht; exact r1
        exact ⟨a2, q6, RNH.out s hs', nodup_len _ _ a6 q6, NH.out.ofW hs'⟩) (by omega) (by omega) (PO hs A zs T ss) (fun D tr hd => NH.out.placed SS.out WW.out tr hd) (fun P Q => ⟨Q.nd, Q.mem, fun k s o t u h1 h2 h3 h4 h5 => NH.out.none SS.out WW.out Q h1 h2 h3 h4 h5⟩)
    have C12X : Hid (wx.cell? ⟨b12, 0, none⟩ = some (.pointer (some ⟨bN + 1, 0, none⟩))) := c12
    have U4X : Hid (Upd [] W4 wx) := U4x
    clear PG6 U4x UX
    go_upto_region 38 with fail
    go_wp2_with fail
    refine Calls.mono KS.out ?_
    rintro e' w7 ⟨vP, D, fP, hPD, rfl, sP, gP, B7⟩
    have U7 : Upd [] wx w7 := upd_below B7
    have PDH : Hid (PO hs A zs T ss D) := hPD
    have hDn : vP.n = D.length := by have := sP.len; simpa using this.symm
    have hDl : D.length ≤ 12 := by have := nodup_len A.length D hPD.nd (fun v hv => (hPD.mem v).mp hv); omega
    have c127 : w7.cell? ⟨b12, 0, none⟩ = some (.pointer (some ⟨bN + 1, 0, none⟩)) := U7.cell C12X.out (by simp)
    have U47 : Upd [] W4 w7 := U4X.out.trans U7 (by simp)
    have d07 : w7.cell? ⟨bN + 1, 0, none⟩ = some (.slice (some ⟨bN, 0, none⟩) A.length A.length) := U47.cell (PGH4.out.cell (j := 0) rfl).1 (by simp)
    have NM7 : NamesAt bN A.length (nmsAt A zs A.length) w7 := NamesAt.keeps _ _ _ _ _ [] NM4.out U47 (by simp)
    have hnl := nmsAt_full NH.out.hp
    have NM8 : Sl w7 9 1 (some ⟨bN, 0, none⟩) (nmsAt A zs A.length).length A.length [bN] ((nmsAt A zs A.length).map strV) := by rw [hnl]; exact NM7
    rw [hDn] at sP
    have KN := nameNodes_any w7 (some ⟨bN, 0, none⟩) vP.a A.length vP.c [bN] fP (nmsAt A zs A.length) D NM8 sP (by omega) (fun t ht => by rw [hnl]; exact (hPD.mem t).mp ht)
    rw [hnl, ← hDn] at KN
    have KNH : Hid _ := KN
    have HDN : Hid (vP.n = D.length) := hDn
    have kV7 : Blk w7 bV 47 #[.slice vA.a vA.n vA.c, .slice vB.a vB.n vB.c, .bool false, .slice none 0 0, .pointer none, .slice none 0 0, .slice none 0 0, .slice none 0 0] := KV4.out.keep U47 (by simp)
    have UH7 : Hid (Upd [bV] wr w7) := UH4.out.trans U47 (by simp)
    have KV7 : Hid (Blk w7 bV 47 #[.slice vA.a vA.n vA.c, .slice vB.a vB.n vB.c, .bool false, .slice none 0 0, .pointer none, .slice none 0 0, .slice none 0 0, .slice none 0 0]) := kV7
    clear NM7 NM8 KN hnl sP hPD B7 U7 U47 kV7 hDn KS
    go_upto_region 42 with fail
    go_wp2_with fail
    refine Calls.mono KNH.out ?_
    rintro e' w8 ⟨gN, cN, rfl, sN, hgN8, B8⟩
    have U8 : Upd [] w7 w8 := upd_below B8
    have kV8 : Blk w8 bV 47 #[.slice vA.a vA.n vA.c, .slice vB.a vB.n vB.c, .bool false, .slice none 0 0, .pointer none, .slice none 0 0, .slice none 0 0, .slice none 0 0] := KV7.out.keep U8 (by simp)
    have v2 : w8.cell? ⟨bV, 2, none⟩ = some (.bool false) := kV8.cell 2
    have v3 : w8.cell? ⟨bV, 3, none⟩ = some (.slice none 0 0) := kV8.cell 3
    have f2 := kV8.free 2
    have f3 := kV8.free 3
    have UH8 : Hid (Upd [bV] wr w8) := UH7.out.trans U8 (by simp)
    have SN : Hid (Sl w8 9 1 (some ⟨gN, 0, none⟩) vP.n cN [gN] ((nmsOf (nmsAt A zs A.length) D).map strV)) := sN
    have KV8 : Hid (Blk w8 bV 47 #[.slice vA.a vA.n vA.c, .slice vB.a vB.n vB.c, .bool false, .slice none 0 0, .pointer none, .slice none 0 0, .slice none 0 0, .slice none 0 0]) := kV8
    have hsz7 := UH7.out.size
    clear kV8 sN B8 U8 KNH c127 d07
    go_upto_region 43 with fail
    obtain ⟨W9, hW9⟩ : ∃ z : World, z = (w8.setCell ⟨bV, 2, none⟩ (.bool true)).setCell ⟨bV, 3, none⟩ (.slice (some ⟨gN, 0, none⟩) vP.n cN) := ⟨_, rfl⟩
    have kV9 : Blk W9 bV 47 #[.slice vA.a vA.n vA.c, .slice vB.a vB.n vB.c, .bool true, .slice (some ⟨gN, 0, none⟩) vP.n cN, .pointer none, .slice none 0 0, .slice none 0 0, .slice none 0 0] := by
      rw [hW9]
      have := (KV8.out.store 2 (.bool true)).store 3 (.slice (some ⟨gN, 0, none⟩) vP.n cN)
      simpa using this
    have U9 : Upd [bV] wr W9 := by rw [hW9]; exact (UH8.out.trans (Upd.store _ _ _ _) (by simp)).trans (Upd.store _ _ _ _) (by simp)
    have U89 : Upd [bV] w8 W9 := by rw [hW9]; exact (Upd.store _ _ _ _).trans (Upd.store _ _ _ _) (by simp)
    have k19 : Blk W9 b1 47 #[.slice none 0 0, .slice none 0 0, .bool false, .slice none 0 0, .pointer none, .slice none 0 0, .slice none 0 0, .slice none 0 0] := KB1.out.keep U9 (by simpa using n1)
    rw [← hW9]
    clear hW9 v2 v3 f2 f3 KV8 UH8
    have rg : Hid (W9.rangeAt bV 0 [.slice vA.a vA.n vA.c, .slice vB.a vB.n vB.c, .bool true, .slice (some ⟨gN, 0, none⟩) vP.n cN, .pointer none, .slice none 0 0, .slice none 0 0, .slice none 0 0]) := fun j v hj => by rw [Nat.zero_add]; rw [kV9.cell j]; simpa using hj
    have th : Hid (W9.there b1 0 8) := fun j hj => ⟨by rw [Nat.zero_add, k19.cell j]; simp; omega, by rw [Nat.zero_add]; exact k19.free j⟩
    have kE : Hid (Blk (W9.setCells b1 0 [.slice vA.a vA.n vA.c, .slice vB.a vB.n vB.c, .bool true, .slice (some ⟨gN, 0, none⟩) vP.n cN, .pointer none, .slice none 0 0, .slice none 0 0, .slice none 0 0]) b1 47 [.slice vA.a vA.n vA.c, .slice vB.a vB.n vB.c, .bool true, .slice (some ⟨gN, 0, none⟩) vP.n cN, .pointer none, .slice none 0 0, .slice none 0 0, .slice none 0 0].toArray) := by
      have := (((((((k19.store 0 (.slice vA.a vA.n vA.c)).store 1 (.slice vB.a vB.n vB.c)).store 2 (.bool true)).store 3 (.slice (some ⟨gN, 0, none⟩) vP.n cN)).store 4 (.pointer none)).store 5 (.slice none 0 0)).store 6 (.slice none 0 0)).store 7 (.slice none 0 0)
      show Blk _ _ _ _
      simpa [World.setCells] using this
    have uE : Hid (Upd [b1] W9 (W9.setCells b1 0 [.slice vA.a vA.n vA.c, .slice vB.a vB.n vB.c, .bool true, .slice (some ⟨gN, 0, none⟩) vP.n cN, .pointer none, .slice none 0 0, .slice none 0 0, .slice none 0 0])) := updCells b1 _ 0 W9
    have KV9 : Hid (Blk W9 bV 47 #[.slice vA.a vA.n vA.c, .slice vB.a vB.n vB.c, .bool true, .slice (some ⟨gN, 0, none⟩) vP.n cN, .pointer none, .slice none 0 0, .slice none 0 0, .slice none 0 0]) := kV9
    have K19 : Hid (Blk W9 b1 47 #[.slice none 0 0, .slice none 0 0, .bool false, .slice none 0 0, .pointer none, .slice none 0 0, .slice none 0 0, .slice none 0 0]) := k19
    have UH9 : Hid (Upd [bV] wr W9) := U9
    have UH89 : Hid (Upd [bV] w8 W9) := U89
    clear kV9 k19 U9 U89
    apply wp_region_lit
    refine wpList_load_mid rfl 47 (.tmp 6) rfl bV 0 rfl [.slice vA.a vA.n vA.c, .slice vB.a vB.n vB.c, .bool true, .slice (some ⟨gN, 0, none⟩) vP.n cN, .pointer none, .slice none 0 0, .slice none 0 0, .slice none 0 0] _ rg.out Ybaz.underlying47 rfl (by kernel_rfl) ?_
    simp only [Act.put, List.setIfInBounds_toArray, List.set_cons_zero, List.set_cons_succ]
    refine wpList_store_mid rfl 47 (.tmp 2) (.tmp 199) rfl b1 0 [.slice vA.a vA.n vA.c, .slice vB.a vB.n vB.c, .bool true, .slice (some ⟨gN, 0, none⟩) vP.n cN, .pointer none, .slice none 0 0, .slice none 0 0, .slice none 0 0].toArray rfl rfl th.out (by kernel_rfl) (by simp [Value.oneCell']) ?_
    simp only [Act.put]
    obtain ⟨WE, hWE⟩ : ∃ z : World, z = W9.setCells b1 0 [.slice vA.a vA.n vA.c, .slice vB.a vB.n vB.c, .bool true, .slice (some ⟨gN, 0, none⟩) vP.n cN, .pointer none, .slice none 0 0, .slice none 0 0, .slice none 0 0] := ⟨_, rfl⟩
    rw [← hWE]
    rw [← hWE] at kE uE
    clear hWE
    go_wp2_with fail
    refine bodyPost_ret (results6 _ _ b1 _ .nilIface rfl rfl kE.out (by kernel_rfl)) rfl ?_
    have U1E : Upd [bV, b1] wr WE := (UH9.out.mono (by simp)).trans uE.out (by simp)
    have U8E : Upd [bV, b1] w8 WE := (UH89.out.mono (by simp)).trans uE.out (by simp)
    have ndV := VH.out.nd
    simp only [List.nodup_cons, List.mem_append, not_or, List.nodup_append] at ndV
    refine ⟨vA, vB, gN, cN, D, F, A, zs, NM, vars, vers, os, ss, fa, ows, G, J, by rw [HDN.out], ⟨⟨fA, ?_, fun k hk => GF.out k (by simp [hk]), fB, ?_, fun k hk => GF.out k (by simp [hk]), fun k h1 h2 => ndV.2.2.2 k h1 k h2 rfl⟩, ?_, lA, lB⟩, NH.out, WW.out, PDH.out, ?_, ?_⟩
    · exact VH.out.sA.keep U1E (fun k hk hm => by simp at hm; rcases hm with rfl | rfl; exact ndV.1.1 hk; exact n1f.1 hk)
    · exact VH.out.sB.keep U1E (fun k hk hm => by simp at hm; rcases hm with rfl | rfl; exact ndV.1.2 hk; exact n1f.2 hk)
    · exact BB.out.trans (U1E.below BB.out.size (by simp; omega))
    · have := SN.out
      rw [HDN.out] at this
      exact this.keep U8E (fun k hk hm => by simp at hk hm; omega)
    · have := BB.out.size
      omega
end Go.Proofs.YbulkctquGreatFmt

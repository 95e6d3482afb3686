/-
  The law of the serial histories: the events of a transaction.
-/
import Derived.Test.YbulkctquGreatFmtCeA
import Derived.Test.YbulkctquGreatFmtWitC
import Derived.Test.YbulkctquGreatFmtLawN
import Derived.Test.YbulkctquGreatFmtVers
import Derived.Deep.RegionWith
import Derived.BigQuiet
import Derived.Laws.Rows
import Derived.Deep.DeepCutAuto
namespace Go.Proofs.YbulkctquGreatFmt
open Go.ChangeShapes Go.WideShapes Go.ChangeAt Go.RowKit Go.Ord
set_option linter.unusedVariables false
attribute [-go_sem] Go.Builtin.append_ Go.Instr.buildSlice
def hdIs (n : Nat) : Code → Bool
  | .region k _ _ => k == n
  | .seq x _ => hdIs n x
  | .loop x => hdIs n x
  | .scope x => hdIs n x
  | _ => false
def blkHd (n : Nat) : Code → Option Code
  | .seq x y => match blkHd n x with
    | some c => some c
    | none => blkHd n y
  | .loop c => blkHd n c
  | .block k c => if hdIs n c then some (.block k c) else blkHd n c
  | .scope c => blkHd n c
  | .cond _ a b => match blkHd n a with
    | some c => some c
    | none => blkHd n b
  | _ => none
noncomputable def b18 : Code := ((Ybaz.f4.body.bind (blkHd 18)).getD .skip)
theorem ver_le (ab : Bool) (st : ES) (l : List CE) : (esAt ab st l).ver ≤ st.ver + l.length := by
  have := (TL.made ab st l).ver.2
  rw [evsAt_len] at this; exact this
set_option maxHeartbeats 16000000 in
set_option maxRecDepth 100000 in
theorem law18 {u0 u1 u2 u3 u4 u5 u8 u10 u12 u13 u14 u15 u16 u17 u18 u19 u20 u21 u22 u23 u24 u25 u26 u27 u28 u29 u30 u31 u32 u33 u34 u35 u36 u37 u38 u39 u40 u41 u42 u43 u44 u45 u46 u47 u48 u49 u50 u51 u52 u56 u57 u58 u59 u60 u61 u62 u63 u64 u65 u66 u67 u68 u69 u70 u71 u72 u73 u74 u75 u76 u77 u78 u79 u80 u81 u82 u83 u84 u85 u86 u87 u88 u89 u90 u91 u92 u93 u94 u95 u96 u97 u98 u99 u100 u101 u102 u103 u104 u105 u106 u107 u108 u109 u110 u111 u112 u113 u114 u115 u116 u117 u118 u119 u120 u121 u122 u123 u124 u125 u126 u127 u128 u129 u130 u131 u132 u133 u134 u135 u136 u137 u138 u139 u140 u141 u142 u143 u144 u145 u146 u147 u148 u149 u150 u151 u152 u153 u154 u155 u156 u157 u158 u159 u160 u161 u162 u163 u164 u165 u166 u167 u168 u169 u170 u171 : Value} (w wr : World) (bH bS bM : Nat) (D : List SD) (hs : List (List Tx)) (st : ES) (t : CT) (bT bE : Nat) (ea : Option Addr) (ec : Nat) (H0 : HB w wr bH bS bM D hs st.cur) (AV : ArgV w ea t.evs) (h64 : t.evs.length ≤ 64) (hv : st.ver ≤ 10000) (R0 : RowAt bE t.evs.length [] wr) (hn : ∀ (s : Nat) (d : SD), D[s]? = some d → bE ∉ d.eb) (hgE : w.heap.size ≤ bE) (T0 : Blk wr bT 68 #[.int .u8 t.s, .bool t.ab, .slice ea t.evs.length ec]) (J K' : Act → World → Prop) (Q' : Exit → Act → World → Prop)
    (hJ : ∀ a' w', MeetC [none, none, none, none, none, none, none, some (some false), none, none, none, none, some none, some none, some none, some none, some none, none, none, none, none, none, none, none, none, none, none, none, none, none, none, none, none, none, none, none, none, none, none, none, none, none, none, none, none, none, none, none, none, none, none, none, none, none, none, some none, some none, some none, some none, some none, some none, some none, some none, some none, some none, some none, some none, some none, some none, some none, some none, some none, some none, some none, some none, some none, some none, some none, some none, some none, some none, some none, some none, some none, some none, some none, some none, some none, some none, some none, some none, some none, some none, some none, some none, some none, some none, some none, some none, some none, some none, some none, some none, some none, some none, some none, none, none, none, none, none, none, none, none, none, none, none, none, none, none, none, none, none, none, none, none, none, none, none, none, none, none, none, none, none, none, none, none, none, none, none, none, none, none, none, none, none, none, none, none, none, none, none, none, none, none, none, none, none, none, none, none, none, none, none, none, none, none, none, none, none, none] [u0, u1, u2, u3, u4, u5, .map (some bM), .int .u64 st.ver, u8, .pointer (some ⟨bT, 0, none⟩), u10, .slice (some ⟨bE, 0, none⟩) t.evs.length t.evs.length, u12, u13, u14, u15, u16, u17, u18, u19, u20, u21, u22, u23, u24, u25, u26, u27, u28, u29, u30, u31, u32, u33, u34, u35, u36, u37, u38, u39, u40, u41, u42, u43, u44, u45, u46, u47, u48, u49, u50, u51, u52, .slice ea t.evs.length ec, .int .i64 t.evs.length, .int .i64 0, u56, u57, u58, u59, u60, u61, u62, u63, u64, u65, u66, u67, u68, u69, u70, u71, u72, u73, u74, u75, u76, u77, u78, u79, u80, u81, u82, u83, u84, u85, u86, u87, u88, u89, u90, u91, u92, u93, u94, u95, u96, u97, u98, u99, u100, u101, u102, u103, u104, u105, u106, u107, u108, u109, u110, u111, u112, u113, u114, u115, u116, u117, u118, u119, u120, u121, u122, u123, u124, u125, u126, u127, u128, u129, u130, u131, u132, u133, u134, u135, u136, u137, u138, u139, u140, u141, u142, u143, u144, u145, u146, u147, u148, u149, u150, u151, u152, u153, u154, u155, u156, u157, u158, u159, u160, u161, u162, u163, u164, u165, u166, u167, u168, u169, u170, u171] [] (fun x _ wc => x = .int .u64 (esAt t.ab st t.evs).ver ∧ HB w wc bH bS bM D hs (esAt t.ab st t.evs).cur ∧ RowAt bE t.evs.length (evsAt t.ab st t.evs) wc ∧ Blk wc bT 68 #[.int .u8 t.s, .bool t.ab, .slice ea t.evs.length ec]) a' w' → J a' w') (hK : ∀ a' w', Met J a' w' → K' a' w') :
    b18.wp Ybaz.prog (Exit.then K' Q') ⟨[u0, u1, u2, u3, u4, u5, .map (some bM), .int .u64 st.ver, u8, .pointer (some ⟨bT, 0, none⟩), u10, .slice (some ⟨bE, 0, none⟩) t.evs.length t.evs.length, u12, u13, u14, u15, u16, u17, u18, u19, u20, u21, u22, u23, u24, u25, u26, u27, u28, u29, u30, u31, u32, u33, u34, u35, u36, u37, u38, u39, u40, u41, u42, u43, u44, u45, u46, u47, u48, u49, u50, u51, u52, .slice ea t.evs.length ec, .int .i64 t.evs.length, .int .i64 0, u56, u57, u58, u59, u60, u61, u62, u63, u64, u65, u66, u67, u68, u69, u70, u71, u72, u73, u74, u75, u76, u77, u78, u79, u80, u81, u82, u83, u84, u85, u86, u87, u88, u89, u90, u91, u92, u93, u94, u95, u96, u97, u98, u99, u100, u101, u102, u103, u104, u105, u106, u107, u108, u109, u110, u111, u112, u113, u114, u115, u116, u117, u118, u119, u120, u121, u122, u123, u124, u125, u126, u127, u128, u129, u130, u131, u132, u133, u134, u135, u136, u137, u138, u139, u140, u141, u142, u143, u144, u145, u146, u147, u148, u149, u150, u151, u152, u153, u154, u155, u156, u157, u158, u159, u160, u161, u162, u163, u164, u165, u166, u167, u168, u169, u170, u171].toArray, []⟩ wr := by
  have HJ : Hid _ := hJ
  have HKK : Hid _ := hK
  have HH : Hid _ := H0
  have RH : Hid _ := R0
  have TH : Hid (Blk wr bT 68 #[.int .u8 t.s, .bool t.ab, .slice ea t.evs.length ec]) := T0
  have AH : Hid _ := AV
  have NH : Hid (∀ (s : Nat) (d : SD), D[s]? = some d → bE ∉ d.eb) := hn
  clear hJ hK H0 R0 T0 AV hn
  conv => arg 2; whnf
  go_wp2_with fail
  refine wp_loopC [none, none, none, none, none, none, none, some (some true), none, none, none, none, some none, some none, some none, some none, some none, none, none, none, none, none, none, none, none, none, none, none, none, none, none, none, none, none, none, none, none, none, none, none, none, none, none, none, none, none, none, none, none, none, none, none, none, none, none, some (some false), some none, some none, some none, some none, some none, some none, some none, some none, some none, some none, some none, some none, some none, some none, some none, some none, some none, some none, some none, some none, some none, some none, some none, some none, some none, some none, some none, some none, some none, some none, some none, some none, some none, some none, some none, some none, some none, some none, some none, some none, some none, some none, some none, some none, some none, some none, some none, some none, some none, some none, none, none, none, none, none, none, none, none, none, none, none, none, none, none, none, none, none, none, none, none, none, none, none, none, none, none, none, none, none, none, none, none, none, none, none, none, none, none, none, none, none, none, none, none, none, none, none, none, none, none, none, none, none, none, none, none, none, none, none, none, none, none, none, none, none, none] (fun m x y wl => ∃ k, k ≤ t.evs.length ∧ m = t.evs.length - k ∧ x = .int .i64 k ∧ y = .int .u64 (esAt t.ab st (t.evs.take k)).ver ∧ HB w wl bH bS bM D hs (esAt t.ab st (t.evs.take k)).cur ∧ RowAt bE t.evs.length (evsAt t.ab st (t.evs.take k)) wl ∧ Blk wl bT 68 #[.int .u8 t.s, .bool t.ab, .slice ea t.evs.length ec]) t.evs.length (.int .i64 0) (.int .u64 st.ver) rfl ⟨0, by omega, by omega, rfl, rfl, HH.out, RH.out, TH.out⟩ ?_
  intro m uu x1 y1 wl J1 K1 hrel hJ1 hK1
  obtain ⟨k, hk, rfl, rfl, rfl, h1, h2, h3⟩ := hrel
  clear HH RH TH
  have HJ1 : Hid _ := hJ1
  have HH : Hid _ := h1
  have RH : Hid (RowAt bE t.evs.length (evsAt t.ab st (t.evs.take k)) wl) := h2
  have TH : Hid (Blk wl bT 68 #[.int .u8 t.s, .bool t.ab, .slice ea t.evs.length ec]) := h3
  have hver := ver_le t.ab st (t.evs.take k)
  obtain ⟨S1, hS1⟩ : ∃ z, z = esAt t.ab st (t.evs.take k) := ⟨_, rfl⟩
  obtain ⟨es, hes⟩ : ∃ z, z = evsAt t.ab st (t.evs.take k) := ⟨_, rfl⟩
  have HS1 : Hid (S1 = esAt t.ab st (t.evs.take k)) := hS1
  have HES : Hid (es = evsAt t.ab st (t.evs.take k)) := hes
  have hesl : es.length = k := by rw [hes, evsAt_len]; simp; omega
  rw [← hS1] at HH hver ⊢
  rw [← hes] at RH
  rw [List.length_take] at hver
  clear hJ1 h1 h2 h3 hS1 hes
  dsimp only [fillC, Nat.reduceAdd]
  by_cases hlt : k < t.evs.length
  · as_aux_lemma =>
    obtain ⟨e, he⟩ := has_at t.evs hlt
    have HE : Hid (t.evs[k]? = some e) := he
    obtain ⟨bA, oA, hea, a0, a1, hx⟩ := AH.out.at_ k e he
    subst hea
    have a0 := cell_bel HH.out.bel a0
    have a1 := cell_bel HH.out.bel a1
    have tk : t.evs.take (k + 1) = t.evs.take k ++ [e] := take_snoc he
    have NX : Hid (∀ (w9 : World), HB w w9 bH bS bM D hs (esStep t.ab S1 e).cur → RowAt bE t.evs.length (es ++ [evOf t.ab S1 e]) w9 → Blk w9 bT 68 #[.int .u8 t.s, .bool t.ab, .slice (some ⟨bA, oA, none⟩) t.evs.length ec] → HB w w9 bH bS bM D hs (esAt t.ab st (t.evs.take (k + 1))).cur ∧ RowAt bE t.evs.length (evsAt t.ab st (t.evs.take (k + 1))) w9 ∧ Blk w9 bT 68 #[.int .u8 t.s, .bool t.ab, .slice (some ⟨bA, oA, none⟩) t.evs.length ec]) := by
      intro w9 p1 p2 p3
      rw [tk, esAt_snoc, evsAt_snoc, ← HS1.out, ← HES.out]
      exact ⟨p1, p2, p3⟩
    have NV : Hid (esStep t.ab S1 e = esAt t.ab st (t.evs.take (k + 1))) := by show _ = _; rw [tk, esAt_snoc, ← HS1.out]
    have hv2 : S1.ver ≤ 20000 := by omega
    clear he tk HS1 HES hver
    go_upto_region 20 with fail
    obtain ⟨bX, hbX⟩ : ∃ z, z = wl.heap.size := ⟨_, rfl⟩
    obtain ⟨W1, hW1⟩ : ∃ z : World, z = wl.alloc (.cells #[.bool e.w, .int .u8 e.x] 71) := ⟨_, rfl⟩
    have U1 : Upd [] wl W1 := by rw [hW1]; exact Upd.alloc _ _ _
    have kX : Blk W1 bX 71 #[.bool e.w, .int .u8 e.x] := by rw [hW1, hbX]; exact Blk.new _ _ _
    rw [← hW1, ← hbX]
    have H1 : Hid _ := HH.out.new U1
    have R1 : Hid (RowAt bE t.evs.length es W1) := RowAt.keep RH.out U1 (by simp)
    have T1 : Hid (Blk W1 bT 68 #[.int .u8 t.s, .bool t.ab, .slice (some ⟨bA, oA, none⟩) t.evs.length ec]) := TH.out.keep U1 (by simp)
    have x0 : W1.cell? ⟨bX, 0, none⟩ = some (.bool e.w) := kX.cell 0
    have x1 : W1.cell? ⟨bX, 1, none⟩ = some (.int .u8 e.x) := kX.cell 1
    have t1 : W1.cell? ⟨bT, 1, none⟩ = some (.bool t.ab) := T1.out.cell 1
    have hbE : bE ≠ bT := by
      rintro rfl
      obtain ⟨c9, hc9⟩ := R1.out.blk
      exact absurd (Blk.ty hc9 T1.out) (by decide)
    clear hW1 hbX U1 kX a0 a1 HH RH TH
    go_upto_region 21 with fail
    obtain ⟨y, hy⟩ : ∃ z, z = e.x % 3 := ⟨_, rfl⟩
    have HY : Hid (y = e.x % 3) := hy
    have hy3 : y < 3 := by omega
    rw [show ((e.x : Int) % 3) = (y : Int) by omega]
    clear hy x1 hx
    obtain ⟨⟨c0, q0⟩, f0⟩ := R1.out.cell (j := k * 4) (by omega)
    obtain ⟨⟨c1, q1⟩, f1⟩ := R1.out.cell (j := k * 4 + 1) (by omega)
    obtain ⟨⟨c2, q2⟩, f2⟩ := R1.out.cell (j := k * 4 + 2) (by omega)
    obtain ⟨⟨c3, q3⟩, f3⟩ := R1.out.cell (j := k * 4 + 3) (by omega)
    have HF : Hid (∀ (x : Ev) (w9 : World), w9 = ((((W1.setCell ⟨bE, k * 4, none⟩ (.int .u8 x.k)).setCell ⟨bE, k * 4 + 1, none⟩ (.int .u64 x.x)).setCell ⟨bE, k * 4 + 2, none⟩ (.int .u64 x.v)).setCell ⟨bE, k * 4 + 3, none⟩ (.bool x.i)) → HB w w9 bH bS bM D hs S1.cur ∧ RowAt bE t.evs.length (es ++ [x]) w9 ∧ Blk w9 bT 68 #[.int .u8 t.s, .bool t.ab, .slice (some ⟨bA, oA, none⟩) t.evs.length ec]) := by
      rintro x w9 rfl
      obtain ⟨r1, r2⟩ := R1.out.put (by omega) x
      rw [hesl] at r1 r2
      obtain ⟨c9, hc9⟩ := R1.out.blk
      exact ⟨H1.out.row hc9 NH.out hgE r2, r1, T1.out.keep r2 (by simpa using hbE.symm)⟩
    have HM : Hid (MapAt W1 (ik .u64) bM (fun z => (S1.cur z).map (ik .u64))) := H1.out.m
    by_cases hw : e.w = true
    · as_aux_lemma =>
      have HW : Hid (e.w = true) := hw
      rw [hw] at x0
      clear hw
      obtain ⟨v1, hv1⟩ : ∃ z, z = S1.ver + 1 := ⟨_, rfl⟩
      have ST : Hid (esStep t.ab S1 e = ⟨if t.ab then S1.cur else curSet S1.cur y v1, v1⟩) := by show _ = _; simp [esStep, HW.out, HY.out, hv1]
      have EV : Hid (evOf t.ab S1 e = ⟨1, y, v1, false⟩) := by show _ = _; simp [evOf, HW.out, HY.out, hv1]
      go_upto_region 23 with fail
      rw [show ((S1.ver : Int) + 1) = (v1 : Int) by omega]
      have hv3 : v1 ≤ 20001 := by omega
      clear x0 hv1
      go_upto_region 24 with fail
      obtain ⟨W2, hW2⟩ : ∃ z : World, z = ((((W1.setCell ⟨bE, k * 4, none⟩ (.int .u8 1)).setCell ⟨bE, k * 4 + 1, none⟩ (.int .u64 y)).setCell ⟨bE, k * 4 + 2, none⟩ (.int .u64 v1)).setCell ⟨bE, k * 4 + 3, none⟩ (.bool false)) := ⟨_, rfl⟩
      rw [← hW2]
      obtain ⟨h1, h2, h3⟩ := HF.out ⟨1, y, v1, false⟩ W2 hW2
      have H2 : Hid _ := h1
      have R2 : Hid (RowAt bE t.evs.length (es ++ [⟨1, y, v1, false⟩]) W2) := h2
      have T2 : Hid (Blk W2 bT 68 #[.int .u8 t.s, .bool t.ab, .slice (some ⟨bA, oA, none⟩) t.evs.length ec]) := h3
      have t2 : W2.cell? ⟨bT, 1, none⟩ = some (.bool t.ab) := h3.cell 1
      clear h1 h2 h3 hW2 q0 q1 q2 q3 f0 f1 f2 f3 t1
      by_cases hab : t.ab = true
      · as_aux_lemma =>
        have HAB : Hid (t.ab = true) := hab
        rw [hab] at t2
        clear hab
        go_wp2_with fail
        refine Met.intro ?_
        refine HJ1.out _ _ ?_
        refine EndC.of (t.evs.length - (k + 1)) (.int .i64 ((k : Int) + 1)) (.int .u64 v1) ?_ (by omega) ?_
        · rfl
        refine ⟨k + 1, by omega, rfl, by go_num, by rw [← NV.out, ST.out], NX.out W2 ?_ ?_ T2.out⟩
        · rw [ST.out, HAB.out]; exact H2.out
        · rw [EV.out]; exact R2.out
      · as_aux_lemma =>
        have hab2 : t.ab = false := by simpa using hab
        have HAB : Hid (t.ab = false) := hab2
        rw [hab2] at t2
        clear hab hab2
        go_wp2_with (at_mapUpdate; refine wpList_put rfl (.tmp 77) (.tmp 78) (.tmp 79) 69 rfl Ybaz.underlying69 key35 bM _ H2.out.m y (.int .u64 v1) rfl rfl rfl ?_; intro w5 m5 u5; have M5 : Hid _ := m5; have U5 : Hid _ := u5; clear m5 u5)
        refine Met.intro ?_
        refine HJ1.out _ _ ?_
        refine EndC.of (t.evs.length - (k + 1)) (.int .i64 ((k : Int) + 1)) (.int .u64 v1) ?_ (by omega) ?_
        · rfl
        have hbT : bT ∉ [bM] := fun hm => by simp at hm; subst hm; exact H2.out.m.notBlk T2.out
        have hbE2 : bE ∉ [bM] := fun hm => by simp at hm; obtain ⟨c9, hc9⟩ := R2.out.blk; rw [hm] at hc9; exact H2.out.m.notBlk hc9
        refine ⟨k + 1, by omega, rfl, by go_num, by rw [← NV.out, ST.out], NX.out w5 ?_ ?_ (T2.out.keep U5.out hbT)⟩
        · rw [ST.out, HAB.out]
          refine H2.out.map (M5.out.congr (fun z => ?_)) U5.out
          by_cases c : z = y <;> simp [c, curSet, ik]
        · rw [EV.out]; exact R2.out.keep U5.out hbE2
    · as_aux_lemma =>
      have hw2 : e.w = false := by simpa using hw
      have HW : Hid (e.w = false) := hw2
      rw [hw2] at x0
      clear hw hw2
      have ST : Hid (esStep t.ab S1 e = S1) := by show _ = _; simp [esStep, HW.out]
      by_cases hab : t.ab = true
      · as_aux_lemma =>
        have HAB : Hid (t.ab = true) := hab
        have EV : Hid (evOf t.ab S1 e = ⟨0, y, 0, true⟩) := by show _ = _; simp [evOf, HW.out, HY.out, hab]
        rw [hab] at t1
        clear hab
        go_wp2_with fail
        refine Met.intro ?_
        refine HJ1.out _ _ ?_
        refine EndC.of (t.evs.length - (k + 1)) (.int .i64 ((k : Int) + 1)) (.int .u64 S1.ver) ?_ (by omega) ?_
        · rfl
        obtain ⟨h1, h2, h3⟩ := HF.out ⟨0, y, 0, true⟩ _ rfl
        refine ⟨k + 1, by omega, rfl, by go_num, by rw [← NV.out, ST.out], NX.out _ ?_ ?_ h3⟩
        · rw [ST.out]; exact h1
        · rw [EV.out]; exact h2
      · as_aux_lemma =>
        have hab2 : t.ab = false := by simpa using hab
        have HAB : Hid (t.ab = false) := hab2
        rw [hab2] at t1
        clear hab hab2
        rcases hc : S1.cur y with _ | c
        · as_aux_lemma =>
          have HC : Hid (S1.cur y = none) := hc
          have EV : Hid (evOf t.ab S1 e = ⟨0, y, 0, true⟩) := by show _ = _; simp [evOf, HW.out, ← HY.out, HAB.out, hc, rdOf]
          clear hc
          go_wp2_with (at_lookup; refine wpList_look2 rfl (.tmp 88) (.tmp 89) 69 rfl Ybaz.underlying69 key35 bM _ HM.out y zero35 rfl rfl (.int .u64 0) false (by simp [HC.out]) (by simp [HC.out]) ?_)
          refine Met.intro ?_
          refine HJ1.out _ _ ?_
          refine EndC.of (t.evs.length - (k + 1)) (.int .i64 ((k : Int) + 1)) (.int .u64 S1.ver) ?_ (by omega) ?_
          · rfl
          obtain ⟨h1, h2, h3⟩ := HF.out ⟨0, y, 0, true⟩ _ rfl
          refine ⟨k + 1, by omega, rfl, by go_num, by rw [← NV.out, ST.out], NX.out _ ?_ ?_ h3⟩
          · rw [ST.out]; exact h1
          · rw [EV.out]; exact h2
        · as_aux_lemma =>
          have HC : Hid (S1.cur y = some c) := hc
          have EV : Hid (evOf t.ab S1 e = ⟨0, y, c, false⟩) := by show _ = _; simp [evOf, HW.out, ← HY.out, HAB.out, hc, rdOf]
          clear hc
          go_wp2_with (at_lookup; refine wpList_look2 rfl (.tmp 88) (.tmp 89) 69 rfl Ybaz.underlying69 key35 bM _ HM.out y zero35 rfl rfl (.int .u64 c) true (by simp [HC.out, ik]) (by simp [HC.out]) ?_)
          refine Met.intro ?_
          refine HJ1.out _ _ ?_
          refine EndC.of (t.evs.length - (k + 1)) (.int .i64 ((k : Int) + 1)) (.int .u64 S1.ver) ?_ (by omega) ?_
          · rfl
          obtain ⟨h1, h2, h3⟩ := HF.out ⟨0, y, c, false⟩ _ rfl
          refine ⟨k + 1, by omega, rfl, by go_num, by rw [← NV.out, ST.out], NX.out _ ?_ ?_ h3⟩
          · rw [ST.out]; exact h1
          · rw [EV.out]; exact h2
  · as_aux_lemma =>
    have hk2 : k = t.evs.length := by omega
    have hfin : (esAt t.ab st (t.evs.take k)) = esAt t.ab st t.evs := by rw [hk2, List.take_length]
    have hfin2 : (evsAt t.ab st (t.evs.take k)) = evsAt t.ab st t.evs := by rw [hk2, List.take_length]
    rw [HS1.out, hfin] at HH ⊢
    rw [HES.out, hfin2] at RH
    go_wp2_with fail
    refine HKK.out _ _ ?_
    refine Met.intro ?_
    refine HJ.out _ _ ?_
    refine MeetC.of (.int .u64 (esAt t.ab st t.evs).ver) undef ?_ ?_
    · rfl
    exact ⟨rfl, HH.out, RH.out, TH.out⟩
end Go.Proofs.YbulkctquGreatFmt

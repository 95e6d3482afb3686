/-
  CertifySessions on any history: whole.
-/
import Derived.Test.YbulkctquGreatFmtCfB
namespace Go.Proofs.YbulkctquGreatFmt
open Go.ChangeShapes Go.WideShapes Go.ChangeAt Go.RowKit Go.Ord
set_option linter.unusedVariables false
attribute [-go_sem] Go.Builtin.append_ Go.Instr.buildSlice Go.Instr.build

set_option maxHeartbeats 16000000 in
set_option maxRecDepth 100000 in
theorem cert6R (w : World) (R : HR) (hs : List (List Tx)) (ta : Option Addr) (cap : Nat) (HT0 : hs ≠ [] → ta = some ⟨R.top, 0, none⟩) (H : HistE w R hs) (h8 : ∀ s k e x, At hs s k e x → x.v < 8)
    (K11 : ∀ w1, Below w.heap.size w w1 → Calls Ybaz.prog 11 #[.agg #[.slice ta hs.length cap]] w1 (VrPostC w1 hs))
    (K13 : ∀ (F : Nat → Option Wr) (bm : Nat) (w1 : World), HOk hs → WF hs F → HistE w1 R hs → MapAt w1 (ik .u64) bm (fun v => (F v).map Wr.val) → Calls Ybaz.prog 13 #[.agg #[.slice ta hs.length cap], .map (some bm)] w1 (MrPostC w1 hs F))
    (K14 : ∀ (F : Nat → Option Wr) (bm : Nat) (w1 : World), HOk hs → WF hs F → ROk hs → HistE w1 R hs → MapAt w1 (ik .u64) bm (fun v => (F v).map Wr.val) → Calls Ybaz.prog 14 #[.agg #[.slice ta hs.length cap], .map (some bm)] w1 (NspPostT w1 hs F))
    (K20 : ∀ (F : Nat → Option Wr) (bm : Nat) (w1 : World) (p q : Nat × Nat) (l : List Tx) (t : Tx) (lp : List Tx) (tp : Tx), HOk hs → WF hs F → HistE w1 R hs → MapAt w1 (ik .u64) bm (fun v => (F v).map Wr.val) → hs[q.1]? = some l → l[q.2]? = some t → hs[p.1]? = some lp → lp[p.2]? = some tp → Cause hs F p q → Calls Ybaz.prog 20 #[.agg #[.slice ta hs.length cap], .map (some bm), .agg #[.int .i64 p.1, .int .i64 p.2], .agg #[.int .i64 q.1, .int .i64 q.2]] w1 (FaPostC w1)) :
    Calls Ybaz.prog 6 #[.agg #[.slice ta hs.length cap]] w (CertPostR w hs) := by
  have HH : Hid _ := H
  have HT : Hid (hs ≠ [] → ta = some ⟨R.top, 0, none⟩) := HT0
  have H8 : Hid (∀ s k e x, At hs s k e x → x.v < 8) := h8
  have N11 : Hid (∀ w1, Below w.heap.size w w1 → Calls Ybaz.prog 11 #[.agg #[.slice ta hs.length cap]] w1 (VrPostC w1 hs)) := K11
  have N13 : Hid _ := K13
  have N14 : Hid _ := K14
  have N20 : Hid _ := K20
  clear H HT0 h8 K11 K13 K14 K20
  go_enter Ybaz.func6, Ybaz.ntmps6
  go_wp2_with fail
  obtain ⟨W2, hW2⟩ : ∃ z : World, z = (w.alloc (.cells #[.slice ta hs.length cap] 29)).alloc (.cells #[.slice none 0 0, .slice none 0 0, .bool false, .slice none 0 0, .pointer none, .slice none 0 0, .slice none 0 0, .slice none 0 0] 47) := ⟨_, rfl⟩
  have U2 : Upd [] w W2 := by rw [hW2]; exact (Upd.alloc [] _ _).trans (Upd.alloc [] _ _) (by simp)
  have z2 : W2.heap.size = w.heap.size + 2 := by rw [hW2]; simp
  have cB2 : W2.cell? ⟨w.heap.size, 0, none⟩ = some (.slice ta hs.length cap) := by
    rw [hW2]
    exact (Upd.alloc [] _ _).cell ((Blk.new w #[.slice ta hs.length cap] 29).cell 0) (by simp)
  have k12 : Blk W2 (w.heap.size + 1) 47 #[.slice none 0 0, .slice none 0 0, .bool false, .slice none 0 0, .pointer none, .slice none 0 0, .slice none 0 0, .slice none 0 0] := by
    rw [hW2]
    have := Blk.new (w.alloc (.cells #[.slice ta hs.length cap] 29)) #[.slice none 0 0, .slice none 0 0, .bool false, .slice none 0 0, .pointer none, .slice none 0 0, .slice none 0 0, .slice none 0 0] 47
    simpa using this
  have B2 : Below w.heap.size w W2 := U2.below (Nat.le_refl _) (by simp)
  rw [← hW2]
  have K12 : Hid (Blk W2 (w.heap.size + 1) 47 #[.slice none 0 0, .slice none 0 0, .bool false, .slice none 0 0, .pointer none, .slice none 0 0, .slice none 0 0, .slice none 0 0]) := k12
  have CB2 : Hid (W2.cell? ⟨w.heap.size, 0, none⟩ = some (.slice ta hs.length cap)) := cB2
  have B2H : Hid (Below w.heap.size w W2) := B2
  clear hW2 U2 cB2 k12 B2
  refine Calls.mono (N11.out W2 B2H.out) ?_
  rintro e' w3 (⟨bm, F, rfl, MF, hgm, B3, W, O⟩ | ⟨te, pe, rfl, B3, hNO⟩)
  case inr =>
    as_aux_lemma =>
    have U3 : Upd [] W2 w3 := upd_below B3
    have K13 : Hid (Blk w3 (w.heap.size + 1) 47 #[.slice none 0 0, .slice none 0 0, .bool false, .slice none 0 0, .pointer none, .slice none 0 0, .slice none 0 0, .slice none 0 0]) := K12.out.keep U3 (by simp)
    have B3H : Hid (Below w.heap.size w w3) := B2H.out.trans (B3.mono (by omega))
    have NOH : Hid (¬ HOk hs) := hNO
    clear U3 B3 hNO K12
    go_upto_region 3 with fail
    have hb47 : ∀ z : World, (Instr.build 47 #[]).run Ybaz.prog z = .ok (.agg #[.slice none 0 0, .slice none 0 0, .bool false, .slice none 0 0, .pointer none, .slice none 0 0, .slice none 0 0, .slice none 0 0]) z := fun z => by kernel_rfl
    have hi47 : (Ybaz.prog.info? 47).map (·.size) = some 8 := by kernel_rfl
    go_wp2_with (refine wpList_store_row rfl 47 (.tmp 2) (.tmp 30) rfl (w.heap.size + 1) _ rfl rfl 47 _ K13.out hi47 rfl (by simp [Value.oneCell']) ?_)
    refine bodyPost_ret (results6 _ _ (w.heap.size + 1) _ (.iface te (.pointer (some pe))) rfl rfl (setRow_heap w3 (w.heap.size + 1) _ _ 47 (0, 0) K13.out) hi47) rfl ?_
    exact .inl ⟨NOH.out, B3H.out.trans ((updRow _ _ _).below B3H.out.size (by simp)), te, pe, rfl⟩
  have U3 : Upd [] W2 w3 := upd_below B3
  have MH : Hid _ := MF
  have WH : Hid _ := W
  have CB3 : Hid (w3.cell? ⟨w.heap.size, 0, none⟩ = some (.slice ta hs.length cap)) := U3.cell CB2.out (by simp)
  have K13 : Hid (Blk w3 (w.heap.size + 1) 47 #[.slice none 0 0, .slice none 0 0, .bool false, .slice none 0 0, .pointer none, .slice none 0 0, .slice none 0 0, .slice none 0 0]) := K12.out.keep U3 (by simp)
  have B3H : Hid (Below w.heap.size w w3) := B2H.out.trans (B3.mono (by omega))
  have z3 : w.heap.size + 2 ≤ w3.heap.size := by have := B3.size; omega
  have hbm3 : bm < w3.heap.size := MF.lt
  have OH : Hid _ := O
  have hs9 := O.small
  have SM2 : Hid (∀ l ∈ hs, l.length < 90) := O.small2
  clear MF W B3 U3 CB2 K12 O
  go_upto_region 5 with fail
  obtain ⟨bV, hbV⟩ : ∃ z, z = w3.heap.size := ⟨_, rfl⟩
  obtain ⟨W4, hW4⟩ : ∃ z : World, z = w3.alloc (.cells #[.slice none 0 0, .slice none 0 0, .bool false, .slice none 0 0, .pointer none, .slice none 0 0, .slice none 0 0, .slice none 0 0] 47) := ⟨_, rfl⟩
  have V4 : VT bV ⟨none, 0, 0⟩ ⟨none, 0, 0⟩ [] [] [] [] W4 := ⟨by rw [hW4, hbV]; exact Blk.new _ _ _, Sl.empty _ _ _, Sl.empty _ _ _, by simp⟩
  have B4 : Below w3.heap.size w3 W4 := by rw [hW4]; exact (Upd.alloc [] _ _).below (Nat.le_refl _) (by simp)
  have cB4 : W4.cell? ⟨w.heap.size, 0, none⟩ = some (.slice ta hs.length cap) := by rw [hW4]; exact (Upd.alloc [] _ _).cell CB3.out (by simp)
  rw [← hW4, ← hbV]
  have HBV : Hid (bV = w3.heap.size) := hbV
  clear hW4 hbV
  rename_i Kz hKz _ _
  have HKz : Hid _ := hKz
  clear hKz
  go_wp2_with fail
  clear cB4
  refine wp_loopC [none, none, none, none, none, none, none, some none, some none, some none, some none, some none, none, none, none, none, none, none, none, none, none, none, none, none, none, none, none, none, none, none, none, none, none, none, none, some (some false), some none, some none, some none, some none, some none, some none, some none, some none, some none, some none, some none, some none, some none, some none, some none, some none, some none, some none, some none, some none, some none, some none, some none, some none, some none, some none, some none, some none, some none, some none, some none, none, none, none, none, none, none, none, none, none, none, none, none, none, none, none, none, none, none, none, none, none, none, none, none, none, none, none, none, none, none, none, none, none, none, none, none, none, none, none, none, none, none, none, none, none, none, none, none, none, none, none, none, none, none, none, none, none, none, none, none, none, none, none, none, none, none, none, none, none, none, none, none, none, none, none, none, none, none, none, none, none, none, none, none, none, none, none, none, none, none, none, none, none, none, none, none, none, none, none, none, none, none, none, none, none, none, none, none, none, none, none, none, none, none, none, none, none, none, none, none, none, none, none, none, none, none, none, none, none, none, none, none, none] (fun n1 t35 _ wr => ∃ (s : Nat) (vA vB : SV) (A B : List (List UInt8)) (fA fB : List Nat), s ≤ hs.length ∧ n1 = hs.length - s ∧ t35 = .int .i64 s ∧ Below w3.heap.size w3 wr ∧ VT bV vA vB A B fA fB wr ∧ vA.n = A.length ∧ vB.n = B.length ∧ (∀ k ∈ fA ++ fB, w3.heap.size ≤ k) ∧ A ++ allN s (hs.drop s) = allN 0 hs ∧ B ++ allA s (hs.drop s) = allA 0 hs) hs.length (.int .i64 0) undef rfl ⟨0, ⟨none, 0, 0⟩, ⟨none, 0, 0⟩, [], [], [], [], by omega, by omega, rfl, B4, V4, rfl, rfl, by simp, by simp, by simp⟩ ?_
  intro n1 uu x1 y1 wr J1 K1 hrel hJ1 hK1
  obtain ⟨s, vA, vB, A, B, fA, fB, hs1, rfl, rfl, h1, h2, h3, h4, h5, h6, h7⟩ := hrel
  have HJ1 : Hid _ := hJ1
  have BR : Hid (Below w3.heap.size w3 wr) := h1
  have VH : Hid _ := h2
  have GF : Hid (∀ k ∈ fA ++ fB, w3.heap.size ≤ k) := h5
  have EA : Hid (A ++ allN s (hs.drop s) = allN 0 hs) := h6
  have EB : Hid (B ++ allA s (hs.drop s) = allA 0 hs) := h7
  have LA : Hid (vA.n = A.length) := h3
  have LB : Hid (vB.n = B.length) := h4
  clear hJ1 h1 h2 h3 h4 h5 h6 h7 V4 B4
  dsimp only [fillC, Nat.reduceAdd]
  by_cases hlts : s < hs.length
  · as_aux_lemma =>
    obtain ⟨l, hl⟩ := has_at hs hlts
    have hta : ta = some ⟨R.top, 0, none⟩ := HT.out (by intro h; rw [h] at hlts; simp at hlts)
    subst hta
    have L3 : Hid (hs[s]? = some l) := hl
    have HW := HH.out.below (B3H.out.trans (BR.out.mono B3H.out.size))
    obtain ⟨o1, c1, c2⟩ := HW.base.ses s l hl
    have C2 : Hid (l ≠ [] → o1 = some ⟨R.ses s, 0, none⟩) := c2
    have hl9 := SM2.out l (List.mem_of_getElem? hl)
    have hd : hs.drop s = l :: hs.drop (s + 1) := drop_at hl
    have EA2 : Hid (A ++ (rowN s 0 (l.drop 0) ++ allN (s + 1) (hs.drop (s + 1))) = allN 0 hs) := by
      have := EA.out; rw [hd] at this; exact this
    have EB2 : Hid (B ++ (rowA s 0 (l.drop 0) ++ allA (s + 1) (hs.drop (s + 1))) = allA 0 hs) := by
      have := EB.out; rw [hd] at this; exact this
    clear hl c2 HW hd EA EB
    go_wp2_with fail
    clear c1
    refine wp_loopC [none, none, none, none, none, none, none, none, none, some none, some none, some none, none, none, none, none, none, none, none, none, none, none, none, none, none, none, none, none, none, none, none, none, none, none, none, none, none, none, none, none, none, none, some (some false), some none, some none, some none, some none, some none, some none, some none, some none, some none, some none, some none, some none, some none, some none, some none, some none, some none, some none, some none, some none, some none, some none, some none, none, none, none, none, none, none, none, none, none, none, none, none, none, none, none, none, none, none, none, none, none, none, none, none, none, none, none, none, none, none, none, none, none, none, none, none, none, none, none, none, none, none, none, none, none, none, none, none, none, none, none, none, none, none, none, none, none, none, none, none, none, none, none, none, none, none, none, none, none, none, none, none, none, none, none, none, none, none, none, none, none, none, none, none, none, none, none, none, none, none, none, none, none, none, none, none, none, none, none, none, none, none, none, none, none, none, none, none, none, none, none, none, none, none, none, none, none, none, none, none, none, none, none, none, none, none, none, none, none, none, none, none, none, none] (fun n2 t42 _ wr => ∃ (k : Nat) (vA vB : SV) (A B : List (List UInt8)) (fA fB : List Nat), k ≤ l.length ∧ n2 = l.length - k ∧ t42 = .int .i64 k ∧ Below w3.heap.size w3 wr ∧ VT bV vA vB A B fA fB wr ∧ vA.n = A.length ∧ vB.n = B.length ∧ (∀ k ∈ fA ++ fB, w3.heap.size ≤ k) ∧ A ++ (rowN s k (l.drop k) ++ allN (s + 1) (hs.drop (s + 1))) = allN 0 hs ∧ B ++ (rowA s k (l.drop k) ++ allA (s + 1) (hs.drop (s + 1))) = allA 0 hs) l.length (.int .i64 0) undef rfl ⟨0, vA, vB, A, B, fA, fB, by omega, by omega, rfl, BR.out, VH.out, LA.out, LB.out, GF.out, EA2.out, EB2.out⟩ ?_
    intro n2 uv x2 y2 wr J2 K2 hrel hJ2 hK2
    obtain ⟨k, vA, vB, A, B, fA, fB, hk1, rfl, rfl, h1, h2, h3, h4, h5, h6, h7⟩ := hrel
    clear BR VH GF EA2 EB2 LA LB
    have HJ2 : Hid _ := hJ2
    have BR : Hid (Below w3.heap.size w3 wr) := h1
    have VH : Hid _ := h2
    have GF : Hid (∀ k ∈ fA ++ fB, w3.heap.size ≤ k) := h5
    have EA : Hid (A ++ (rowN s k (l.drop k) ++ allN (s + 1) (hs.drop (s + 1))) = allN 0 hs) := h6
    have EB : Hid (B ++ (rowA s k (l.drop k) ++ allA (s + 1) (hs.drop (s + 1))) = allA 0 hs) := h7
    have LA : Hid (vA.n = A.length) := h3
    have LB : Hid (vB.n = B.length) := h4
    have hAn : vA.n ≤ 10000 := by
      have e1 := congrArg List.length h6
      have e2 := allN_len hs 0 SM2.out
      simp only [List.length_append] at e1
      omega
    have hBn : vB.n ≤ 10000 := by
      have e1 := congrArg List.length h7
      have e2 := allA_len hs 0 SM2.out
      simp only [List.length_append] at e1
      omega
    clear hJ2 h1 h2 h3 h4 h5 h6 h7
    dsimp only [fillC, Nat.reduceAdd]
    by_cases hltk : k < l.length
    · as_aux_lemma =>
      obtain ⟨t, ht⟩ := has_at l hltk
      have T3 : Hid (l[k]? = some t) := ht
      have ho1 : o1 = some ⟨R.ses s, 0, none⟩ := C2.out (by intro h; rw [h] at hltk; simp at hltk)
      subst ho1
      have HW := HH.out.below (B3H.out.trans (BR.out.mono B3H.out.size))
      obtain ⟨o2, c3, _⟩ := HW.base.evs s l k t L3.out ht
      have c5 := HW.base.com s l k t L3.out ht
      have KT : Hid (∀ z, Calls Ybaz.prog 12 #[.int .i64 s, .int .i64 k] z fun e w' => e = .returned (.string ⟨(nm s k).toArray⟩) ∧ w' = z) := fun z => txnName s k (by omega) (by omega) z
      clear ht HW
      go_upto_region 11 with fail
      clear c3 c5
      obtain ⟨bT, hbT⟩ : ∃ z, z = wr.heap.size := ⟨_, rfl⟩
      obtain ⟨W5, hW5⟩ : ∃ z : World, z = wr.alloc (.cells #[.slice o2 t.evs.length (R.ec s k), .bool t.com] 39) := ⟨_, rfl⟩
      have U5 : Upd [] wr W5 := by rw [hW5]; exact Upd.alloc _ _ _
      have cT5 : W5.cell? ⟨bT, 1, none⟩ = some (.bool t.com) := by rw [hW5, hbT]; exact (Blk.new wr #[.slice o2 t.evs.length (R.ec s k), .bool t.com] 39).cell 1
      have V5 := VH.out.keep U5 (by simp)
      rw [← hW5, ← hbT]
      have HBT : Hid (bT = wr.heap.size) := hbT
      clear hW5 hbT
      have nTA : bT ∉ fA := fun hm => by have := VH.out.sA.lt _ hm; have := HBT.out; omega
      have nTB : bT ∉ fB := fun hm => by have := VH.out.sB.lt _ hm; have := HBT.out; omega
      have nTV : bT ≠ bV := by have := VH.out.blk.lt; have := HBT.out; omega
      go_wp2_with fail
      refine Calls.mono (KT.out _) ?_
      rintro e' wz ⟨rfl, rfl⟩
      obtain ⟨gR, cR, w6, hrun, hS6, hU6, hF6⟩ := run_appended wz (wz.alloc (.cells #[.string ⟨(nm s k).toArray⟩] 9)) 43 43 9 1 16 slStr (by decide) vA.a vA.n vA.c fA _ V5.sA [.string ⟨(nm s k).toArray⟩] rfl (by intro u hu; simp at hu; subst hu; rfl) (by omega) (Upd.refl _ _)
      obtain ⟨V6, U6⟩ := V5.growA (x := nm s k) hS6 hU6 hF6
      have v0 : wz.cell? ⟨bV, 0, none⟩ = some (.slice vA.a vA.n vA.c) := V5.blk.cell 0
      have ndV := V5.nd
      simp only [List.nodup_cons, List.mem_append, not_or] at ndV
      have v06 : w6.cell? ⟨bV, 0, none⟩ = some (.slice vA.a vA.n vA.c) := hU6.cell v0 ndV.1.1
      have f06 : w6.frozen? ⟨bV, 0, none⟩ = false := hU6.free V5.blk.lt (V5.blk.free 0) ndV.1.1
      have hbs := bs43
      have c6 : (w6.setCell ⟨bV, 0, none⟩ (.slice (some ⟨gR, 0, none⟩) (vA.n + 1) cR)).cell? ⟨bT, 1, none⟩ = some (.bool t.com) := set_other (hU6.cell cT5 nTA) (.inl (fun e => nTV e.symm))
      have V6H : Hid _ := V6
      have UZ : Hid (Upd (bV :: (fA ++ fB)) wr (w6.setCell ⟨bV, 0, none⟩ (.slice (some ⟨gR, 0, none⟩) (vA.n + 1) cR))) := (U5.mono (by simp)).trans U6 (fun x hx => .inl hx)
      have HF6 : Hid (gR ∈ fA ∨ wz.heap.size ≤ gR) := hF6
      have hz5 : wr.heap.size ≤ wz.heap.size := U5.size
      clear V5 V6 U6 hS6 hU6 hF6 cT5 ndV KT U5
      go_upto_region 13 with fail
      obtain ⟨W7, hW7⟩ : ∃ z : World, z = w6.setCell ⟨bV, 0, none⟩ (.slice (some ⟨gR, 0, none⟩) (vA.n + 1) cR) := ⟨_, rfl⟩
      rw [← hW7] at V6H UZ c6 ⊢
      clear hW7 hrun v0 v06 f06
      have hgV : w3.heap.size ≤ bV := by have := HBV.out; omega
      have B7 : Hid (Below w3.heap.size w3 W7) := BR.out.trans (UZ.out.below BR.out.size (fun k hk => by
        simp only [List.mem_cons] at hk
        rcases hk with rfl | hk
        · exact hgV
        · exact GF.out k hk))
      have hgR : w3.heap.size ≤ gR := by
        rcases HF6.out with h | h
        · exact GF.out _ (List.mem_append.mpr (.inl h))
        · have := BR.out.size; omega
      have GF7 : Hid (∀ k ∈ [gR] ++ fB, w3.heap.size ≤ k) := fun k hk => by
        rcases List.mem_append.mp hk with h | h
        · simp at h; subst h; exact hgR
        · exact GF.out k (List.mem_append.mpr (.inr h))
      have EA7 : Hid ((A ++ [nm s k]) ++ (rowN s (k + 1) (l.drop (k + 1)) ++ allN (s + 1) (hs.drop (s + 1))) = allN 0 hs) := by
        have := EA.out; rw [drop_at T3.out] at this; simp only [rowN] at this; show (A ++ [nm s k]) ++ _ = _; simpa using this
      have LA7 : Hid (vA.n + 1 = (A ++ [nm s k]).length) := by have := LA.out; show vA.n + 1 = _; simp [this]
      cases hcm : t.com with
      | true =>
        rw [hcm] at c6
        have EB7 : Hid (B ++ (rowA s (k + 1) (l.drop (k + 1)) ++ allA (s + 1) (hs.drop (s + 1))) = allA 0 hs) := by
          have := EB.out; rw [drop_at T3.out] at this; simp only [rowA, hcm, if_true, List.nil_append] at this; exact this
        clear hcm
        go_wp2_with fail
        refine Met.intro ?_
        refine HJ2.out _ _ ?_
        refine EndC.of (l.length - (k + 1)) (.int .i64 ((k : Int) + 1)) undef ?_ (by omega) ?_
        · rfl
        exact ⟨k + 1, ⟨some ⟨gR, 0, none⟩, vA.n + 1, cR⟩, vB, A ++ [nm s k], B, [gR], fB, by omega, rfl, by go_num, B7.out, V6H.out, LA7.out, LB.out, GF7.out, EA7.out, EB7.out⟩
      | false =>
        rw [hcm] at c6
        have EB7 : Hid ((B ++ [nm s k]) ++ (rowA s (k + 1) (l.drop (k + 1)) ++ allA (s + 1) (hs.drop (s + 1))) = allA 0 hs) := by
          have := EB.out; rw [drop_at T3.out] at this; simp only [rowA, hcm, Bool.false_eq_true, if_false] at this; show (B ++ [nm s k]) ++ _ = _; simpa using this
        have LB7 : Hid (vB.n + 1 = (B ++ [nm s k]).length) := by have := LB.out; show vB.n + 1 = _; simp [this]
        obtain ⟨gS, cS, w8, hrun, hS8, hU8, hF8⟩ := run_appended W7 (W7.alloc (.cells #[.string ⟨(nm s k).toArray⟩] 9)) 43 43 9 1 16 slStr (by decide) vB.a vB.n vB.c fB _ V6H.out.sB [.string ⟨(nm s k).toArray⟩] rfl (by intro u hu; simp at hu; subst hu; rfl) (by omega) (Upd.refl _ _)
        obtain ⟨V8, U8⟩ := V6H.out.growB (x := nm s k) hS8 hU8 hF8
        have v1 : W7.cell? ⟨bV, 1, none⟩ = some (.slice vB.a vB.n vB.c) := V6H.out.blk.cell 1
        have ndV := V6H.out.nd
        simp only [List.nodup_cons, List.mem_append, not_or] at ndV
        have v18 : w8.cell? ⟨bV, 1, none⟩ = some (.slice vB.a vB.n vB.c) := hU8.cell v1 ndV.1.2
        have f18 : w8.frozen? ⟨bV, 1, none⟩ = false := hU8.free V6H.out.blk.lt (V6H.out.blk.free 1) ndV.1.2
        have V8H : Hid _ := V8
        have B8 : Hid (Below w3.heap.size w3 (w8.setCell ⟨bV, 1, none⟩ (.slice (some ⟨gS, 0, none⟩) (vB.n + 1) cS))) := B7.out.trans (U8.below B7.out.size (fun k hk => by
          simp only [List.mem_cons] at hk
          rcases hk with rfl | hk
          · exact hgV
          · exact GF7.out k hk))
        have GF8 : Hid (∀ k ∈ [gR] ++ [gS], w3.heap.size ≤ k) := fun k hk => by
          simp at hk
          rcases hk with rfl | rfl
          · exact hgR
          · rcases hF8 with h | h
            · exact GF7.out _ (List.mem_append.mpr (.inr h))
            · have := B7.out.size; omega
        clear hcm V8 U8 hS8 hU8 hF8 ndV
        go_wp2_with fail
        refine Met.intro ?_
        refine HJ2.out _ _ ?_
        refine EndC.of (l.length - (k + 1)) (.int .i64 ((k : Int) + 1)) undef ?_ (by omega) ?_
        · rfl
        exact ⟨k + 1, ⟨some ⟨gR, 0, none⟩, vA.n + 1, cR⟩, ⟨some ⟨gS, 0, none⟩, vB.n + 1, cS⟩, A ++ [nm s k], B ++ [nm s k], [gR], [gS], by omega, rfl, by go_num, B8.out, V8H.out, LA7.out, LB7.out, GF8.out, EA7.out, EB7.out⟩
    · as_aux_lemma =>
      have hk2 : k = l.length := by omega
      have EA2 : Hid (A ++ allN (s + 1) (hs.drop (s + 1)) = allN 0 hs) := by
        have := EA.out; rw [hk2, List.drop_length] at this; simp only [rowN, List.nil_append] at this; exact this
      have EB2 : Hid (B ++ allA (s + 1) (hs.drop (s + 1)) = allA 0 hs) := by
        have := EB.out; rw [hk2, List.drop_length] at this; simp only [rowA, List.nil_append] at this; exact this
      go_wp2_with fail
      refine Met.intro ?_
      refine HJ1.out _ _ ?_
      refine EndC.of (hs.length - (s + 1)) (.int .i64 ((s : Int) + 1)) undef ?_ (by omega) ?_
      · rfl
      exact ⟨s + 1, vA, vB, A, B, fA, fB, by omega, rfl, by go_num, BR.out, VH.out, LA.out, LB.out, GF.out, EA2.out, EB2.out⟩
  · as_aux_lemma =>
    have hs2 : s = hs.length := by omega
    have EA2 : A = allN 0 hs := by have := EA.out; rw [hs2, List.drop_length] at this; simpa [allN] using this
    have EB2 : B = allA 0 hs := by have := EB.out; rw [hs2, List.drop_length] at this; simpa [allA] using this
    have VE : VT bV vA vB (allN 0 hs) (allA 0 hs) fA fB wr := by rw [← EA2, ← EB2]; exact VH.out
    have hLA : vA.n = (allN 0 hs).length := by rw [← EA2]; exact LA.out
    have hLB : vB.n = (allA 0 hs).length := by rw [← EB2]; exact LB.out
    have VEH : Hid _ := VE
    have HLA : Hid (vA.n = (allN 0 hs).length) := hLA
    have HLB : Hid (vB.n = (allA 0 hs).length) := hLB
    clear EA2 EB2 VE hLA hLB
    go_wp2_with fail
    refine HKz.out _ _ ?_
    have hV := HBV.out
    exact cert17R w R hs ta cap HH.out OH.out H8.out F WH.out w.heap.size (w.heap.size + 1) bm bV vA vB fA fB wr (B3H.out.trans (BR.out.mono B3H.out.size)) (fun w1 h1 h2 => N13.out F bm w1 OH.out WH.out h1 h2) (fun hq w1 h1 h2 => N14.out F bm w1 OH.out WH.out hq h1 h2) (fun w1 p q l t lp tp h1 h2 h3 h4 h5 h6 h7 => N20.out F bm w1 p q l t lp tp OH.out WH.out h1 h2 h3 h4 h5 h6 h7) (MH.out.keep (upd_below BR.out) (by simp)) ((BR.out.cell (by show w.heap.size < _; omega)).trans CB3.out) (K13.out.keep (upd_below BR.out) (by simp)) VEH.out HLA.out HLB.out (by omega) (by omega) (by omega) ⟨fun hm => by have := GF.out _ (List.mem_append.mpr (.inl hm)); omega, fun hm => by have := GF.out _ (List.mem_append.mpr (.inr hm)); omega⟩ (by omega) (by omega) (fun k hk => by have := GF.out k hk; omega)
end Go.Proofs.YbulkctquGreatFmt

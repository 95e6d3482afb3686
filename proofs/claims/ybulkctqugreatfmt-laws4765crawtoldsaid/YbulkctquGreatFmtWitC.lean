/-
  The witness: whole.
-/
import Derived.Test.YbulkctquGreatFmtWitB
import Derived.Deep.RegionWith
import Derived.BigQuiet
import Derived.Deep.DeepCutAuto
namespace Go.Proofs.YbulkctquGreatFmt
open Go.ChangeShapes Go.WideShapes Go.ChangeAt Go.RowKit Go.Ord
set_option linter.unusedVariables false

def EndU (fs : List (Option (Option Bool))) (els : List Value) (dfr : List Deferred) (rel : Nat → (Nat → Value) → World → Prop) (n : Nat) (a : Act) (w : World) : Prop :=
  ∃ m, m < n ∧ ∃ u, rel m u w ∧ a = ⟨(fillC fs els u undef undef 0).toArray, dfr⟩
theorem EndU.of {fs : List (Option (Option Bool))} {els : List Value} {dfr : List Deferred} {rel : Nat → (Nat → Value) → World → Prop} {n : Nat} {new : List Value} {w : World} (m : Nat) (hf : fitC fs els new undef undef) (hm : m < n) (hr : rel m (fun i => new.getD i undef) w) : EndU fs els dfr rel n ⟨new.toArray, dfr⟩ w :=
  ⟨m, hm, _, hr, by rw [hf.eq]⟩
theorem wp_loopU {P : Program} {c : Code} {Q : Exit → Act → World → Prop} {els : List Value} {dfr : List Deferred} {w : World} (fs : List (Option (Option Bool))) (rel : Nat → (Nat → Value) → World → Prop) (n0 : Nat) (hf : fitC fs els els undef undef) (h0 : rel n0 (fun i => els.getD i undef) w)
    (round : ∀ (n : Nat) (u : Nat → Value) (wr : World) (J K : Act → World → Prop), rel n u wr → (∀ a' w', EndU fs els dfr rel n a' w' → J a' w') → (∀ a' w', Met J a' w' → K a' w') → c.wp P (Exit.then K Q) ⟨(fillC fs els u undef undef 0).toArray, dfr⟩ wr) :
    (Code.loop c).wp P Q ⟨els.toArray, dfr⟩ w := by
  refine wp_loop_ghost (fun n a w => ∃ u, rel n u w ∧ a = ⟨(fillC fs els u undef undef 0).toArray, dfr⟩) n0 ⟨_, h0, by rw [hf.eq]⟩ ?_
  rintro n a wr ⟨u, hr, rfl⟩
  exact round n u wr (EndU fs els dfr rel n) (EndU fs els dfr rel n) hr (fun _ _ q => q) (fun _ _ q => q)
set_option maxHeartbeats 16000000 in
set_option maxRecDepth 100000 in
theorem wit10 (w : World) (R : HR) (hs : List (List Tx)) (T : Nat → Nat → Nat) (cap : Nat) (H : HistE w R hs) (S : Ser hs T) (F : Nat → Option Wr) (A : List Rk) (zs : List Nat) (NM : Nat × Nat → Option Nat) (vars vers : List Nat) (os : List Ob) (ss : List Sr) (fa : List Int) (ows G : List (List Nat)) (J : List Bool) (NP0 : NP hs F A zs NM vars vers os ss fa ows G J) (W : WF hs F) (P : List Nat) (Q : PO hs A zs T ss P) (h12 : P.length ≤ 12) (g c : Nat) (hO : Sl w 9 1 (some ⟨g, 0, none⟩) P.length c [g] ((nmsOf (nmsAt A zs A.length) P).map strV)) :
    Calls Ybaz.prog 10 #[.agg #[.slice (some ⟨R.top, 0, none⟩) hs.length cap], .slice (some ⟨g, 0, none⟩) P.length c] w (fun e w' => e = .returned (.bool true) ∧ Below w.heap.size w w') := by
  have HH : Hid _ := H
  have SS : Hid _ := S
  have NH : Hid _ := NP0
  have WW : Hid _ := W
  have QH : Hid _ := Q
  have OH : Hid _ := hO
  have hs9 := S.small
  have SM2 : Hid (∀ l ∈ hs, l.length < 90) := S.small2
  have hPA : P.length = A.length := len_of_mem Q.nd Q.mem
  have hAR : (rksAll 0 hs).length = A.length := by rw [← NP0.hA]
  have HAR : Hid ((rksAll 0 hs).length = A.length) := hAR
  have HPA : Hid (P.length = A.length) := hPA
  have hmk := mkInts.made P.length P.length (Nat.le_refl _) (by omega) (by decide)
  clear H S NP0 W Q hO hAR hPA
  go_enter Ybaz.func10, Ybaz.ntmps10
  go_upto_region 4 with fail
  obtain ⟨b0, hb0⟩ : ∃ z, z = w.heap.size := ⟨_, rfl⟩
  obtain ⟨W3, hW3⟩ : ∃ z : World, z = ((w.alloc (.cells #[.slice (some ⟨R.top, 0, none⟩) hs.length cap] 29)).alloc (.cells (zeros (.int .i64 0) P.length).toArray 3)).alloc (.cells (zeros (.int .i64 0) P.length).toArray 3) := ⟨_, rfl⟩
  have P3 : Pcs w W3 ([([b0], CellIs b0 (.slice (some ⟨R.top, 0, none⟩) hs.length cap)), ([b0 + 1], MarksAt (b0 + 1) P.length (List.replicate P.length 0)), ([b0 + 2], MarksAt (b0 + 2) P.length (List.replicate P.length 0))]) := by
    have q0 := (Pcs.start w).add (Upd.alloc [] w (.cells #[.slice (some ⟨R.top, 0, none⟩) hs.length cap] 29)) (by simp) [w.heap.size] (CellIs w.heap.size (.slice (some ⟨R.top, 0, none⟩) hs.length cap)) ((Blk.new w #[.slice (some ⟨R.top, 0, none⟩) hs.length cap] 29).cell 0) (CellIs.keeps _ _) (by simp) (by simp)
    have q1 := q0.add (Upd.alloc [] _ (.cells (zeros (.int .i64 0) P.length).toArray 3)) (by simp) _ _ (MarksAt.made _ P.length (by omega)) (MarksAt.keeps _ _ _) (by simp) (by simp)
    have q2 := q1.add (Upd.alloc [] _ (.cells (zeros (.int .i64 0) P.length).toArray 3)) (by simp) _ _ (MarksAt.made _ P.length (by omega)) (MarksAt.keeps _ _ _) (by simp) (by simp)
    rw [hW3, hb0]
    simpa using q2
  have P3H : Hid _ := P3
  rw [← hW3]
  rw [show w.heap.size + 1 + 1 = w.heap.size + 2 from rfl, ← hb0]
  clear hW3 hb0 hmk
  have cb : W3.cell? ⟨b0, 0, none⟩ = some (.slice (some ⟨R.top, 0, none⟩) hs.length cap) := P3.mem (i := 0) rfl
  clear P3
  rename_i Kz hKz _ _
  have HKz : Hid _ := hKz
  clear hKz
  go_wp2_with fail
  clear cb
  refine wp_loopC [none, none, none, none, some none, none, none, some (some true), some none, some none, some none, some none, some none, some none, some none, some none, some none, none, none, none, none, none, none, none, none, none, none, none, none, none, none, none, some (some false), some none, some none, some none, some none, some none, some none, some none, some none, some none, some none, some none, some none, some none, some none, some none, some none, some none, some none, some none, some none, some none, some none, some none, some none, some none, some none, some none, some none, some none, some none, some none, some none, some none, some none, some none, some none, some none, some none, some none, some none, some none, some none, some none, some none, some none, some none, some none, some none, some none, some none, some none, none, none, none, none, none, none, none, none, none, none, none, none, none, none, none, none, none, none, none, none, none, none, none, none, none, none, none, none, none, none, none, none, none, none, none, none, none, none, none, none, none, none, none, none, none, none, none, none, none, none, none, none, none, none, none, none, none, none, none, none, none] (fun n1 t32 t7 wr => ∃ (s n : Nat) (PS PK : List Nat), s ≤ hs.length ∧ n1 = hs.length - s ∧ t32 = .int .i64 s ∧ t7 = .int .i64 n ∧ Pcs w wr ([([b0], CellIs b0 (.slice (some ⟨R.top, 0, none⟩) hs.length cap)), ([b0 + 1], MarksAt (b0 + 1) P.length PS), ([b0 + 2], MarksAt (b0 + 2) P.length PK)]) ∧ WT hs A zs P s 0 (-1) PS PK ∧ n + (rksAll s (hs.drop s)).length = A.length) hs.length (.int .i64 0) (.int .i64 0) rfl ⟨0, 0, _, _, by omega, by omega, rfl, rfl, P3H.out, WT.start, by have := HAR.out; simpa using this⟩ ?_
  intro n1 uu x1 y1 wr J1 K1 hrel hJ1 hK1
  obtain ⟨s, n, PS, PK, hs1, rfl, rfl, rfl, h1, h2, h3⟩ := hrel
  clear P3H
  have HJ1 : Hid _ := hJ1
  have P9 : Hid _ := h1
  have TH : Hid _ := h2
  have CN : Hid (n + (rksAll s (hs.drop s)).length = A.length) := h3
  have hnA : n ≤ A.length := by omega
  have hA12 : A.length ≤ 12 := by have := HPA.out; omega
  clear hJ1 h1 h2 h3
  dsimp only [fillC, Nat.reduceAdd]
  by_cases hlts : s < hs.length
  · as_aux_lemma =>
    obtain ⟨l, hl⟩ := has_at hs hlts
    have L3 : Hid (hs[s]? = some l) := hl
    have hl9 := SM2.out l (List.mem_of_getElem? hl)
    have HE := HH.out.below P9.out.bel
    obtain ⟨o1, c1, c2⟩ := HE.base.ses s l hl
    have C2 : Hid (l ≠ [] → o1 = some ⟨R.ses s, 0, none⟩) := c2
    have cb : wr.cell? ⟨b0, 0, none⟩ = some (.slice (some ⟨R.top, 0, none⟩) hs.length cap) := P9.out.mem (i := 0) rfl
    obtain ⟨tot, htot⟩ : ∃ z, z = n + (rksRow s 0 l).length := ⟨_, rfl⟩
    have CT : Hid (tot + (rksAll (s + 1) (hs.drop (s + 1))).length = A.length) := by
      have := CN.out
      rw [drop_at hl] at this
      simp only [rksAll, List.length_append] at this
      show tot + _ = _
      omega
    have HTOT : Hid (n + (rksRow s 0 (l.drop 0)).length = tot) := htot.symm
    have htb : tot < 1000 := by have := CT.out; omega
    clear hl c2 HE htot CN
    go_wp2_with fail
    clear c1 cb
    refine wp_loopU [none, none, none, none, some none, none, none, some none, none, none, some none, some none, some none, some none, some none, some none, some none, none, none, none, none, none, none, none, none, none, none, none, none, none, none, none, none, none, none, none, none, none, none, some none, some none, some none, some none, some none, some none, some none, some none, some none, some none, some none, some none, some none, some none, some none, some none, some none, some none, some none, some none, some none, some none, some none, some none, some none, some none, some none, some none, some none, some none, some none, some none, some none, some none, some none, some none, some none, some none, some none, some none, some none, some none, some none, some none, none, none, none, none, none, none, none, none, none, none, none, none, none, none, none, none, none, none, none, none, none, none, none, none, none, none, none, none, none, none, none, none, none, none, none, none, none, none, none, none, none, none, none, none, none, none, none, none, none, none, none, none, none, none, none, none, none, none, none, none, none, none] (fun n2 u wr => ∃ (k n : Nat) (last : Int) (PS PK : List Nat), k ≤ l.length ∧ n2 = l.length - k ∧ u 39 = .int .i64 k ∧ u 7 = .int .i64 n ∧ u 10 = .int .i64 last ∧ Pcs w wr ([([b0], CellIs b0 (.slice (some ⟨R.top, 0, none⟩) hs.length cap)), ([b0 + 1], MarksAt (b0 + 1) P.length PS), ([b0 + 2], MarksAt (b0 + 2) P.length PK)]) ∧ WT hs A zs P s k last PS PK ∧ n + (rksRow s k (l.drop k)).length = tot) l.length rfl ⟨0, n, -1, PS, PK, by omega, by omega, rfl, rfl, rfl, P9.out, TH.out, HTOT.out⟩ ?_
    intro n2 uv wr J2 K2 hrel hJ2 hK2
    obtain ⟨k, n, last, PS, PK, hk1, rfl, e39, e7, e10, h1, h2, h3⟩ := hrel
    clear P9 TH HTOT
    have HJ2 : Hid _ := hJ2
    have P9 : Hid _ := h1
    have TH : Hid _ := h2
    have CN : Hid (n + (rksRow s k (l.drop k)).length = tot) := h3
    have hnt : n ≤ tot := by omega
    clear hJ2 h1 h2 h3
    dsimp only [fillC, Nat.reduceAdd]
    rw [e39, e7, e10]
    clear e39 e7 e10
    by_cases hltk : k < l.length
    · as_aux_lemma =>
      obtain ⟨t, ht⟩ := has_at l hltk
      have T3 : Hid (l[k]? = some t) := ht
      have ho1 : o1 = some ⟨R.ses s, 0, none⟩ := C2.out (by intro h; rw [h] at hltk; simp at hltk)
      subst ho1
      clear ht
      go_upto_if 40 with fail
      rename_i Kc hKc
      have HKc : Hid _ := hKc
      clear hKc
      go_wp2_with fail
      refine HKc.out _ _ ?_
      refine wp_seq_k ?_
      intro Kd hKd
      have HKd : Hid _ := hKd
      clear hKd
      refine wp_cutC [none, none, none, none, some none, none, none, some (some false), none, none, some (some true), some none, some none, some none, some none, some none, some none, none, none, none, none, none, none, none, none, none, none, none, none, none, none, none, none, none, none, none, none, none, none, none, none, some none, some none, some none, some none, some none, some none, some none, some none, some none, some none, some none, some none, some none, some none, some none, some none, some none, some none, some none, some none, some none, some none, some none, some none, some none, some none, some none, some none, some none, some none, some none, some none, some none, some none, some none, some none, some none, some none, some none, some none, some none, none, none, none, none, none, none, none, none, none, none, none, none, none, none, none, none, none, none, none, none, none, none, none, none, none, none, none, none, none, none, none, none, none, none, none, none, none, none, none, none, none, none, none, none, none, none, none, none, none, none, none, none, none, none, none, none, none, none, none, none, none, none, none] (fun x7 y10 wc => ∃ (n : Nat) (last : Int) (PS PK : List Nat), x7 = .int .i64 n ∧ y10 = .int .i64 last ∧ Pcs w wc ([([b0], CellIs b0 (.slice (some ⟨R.top, 0, none⟩) hs.length cap)), ([b0 + 1], MarksAt (b0 + 1) P.length PS), ([b0 + 2], MarksAt (b0 + 2) P.length PK)]) ∧ WT hs A zs P s (k + 1) last PS PK ∧ n + (rksRow s (k + 1) (l.drop (k + 1))).length = tot) (fun Jx K' hJ hK => wtx w R hs T cap HH.out SS.out F A zs NM vars vers os ss fa ows G J NH.out WW.out P QH.out h12 g c b0 OH.out s k n tot (R.sc s) last l t L3.out T3.out PS PK wr P9.out TH.out CN.out htb Jx K' _ hJ hK) ?_
      intro u8 x8 y8 wc hcut
      obtain ⟨n, last, PS, PK, rfl, rfl, h1, h2, h3⟩ := hcut
      clear P9 TH CN hnt
      have P9 : Hid _ := h1
      have TH : Hid _ := h2
      have CN : Hid (n + (rksRow s (k + 1) (l.drop (k + 1))).length = tot) := h3
      clear h1 h2 h3
      dsimp only [fillC, Nat.reduceAdd]
      refine HKd.out _ _ ?_
      go_wp2_with fail
      refine Met.intro ?_
      refine HJ2.out _ _ ?_
      refine EndU.of (l.length - (k + 1)) ?_ (by omega) ?_
      · rfl
      exact ⟨k + 1, n, last, PS, PK, by omega, rfl, by show Value.int _ _ = _; go_num, rfl, rfl, P9.out, TH.out, CN.out⟩
    · as_aux_lemma =>
      have hk2 : k = l.length := by omega
      have CN2 : Hid (n + (rksAll (s + 1) (hs.drop (s + 1))).length = A.length) := by
        have h1 := CN.out
        have h2 := CT.out
        rw [hk2, List.drop_length] at h1
        simp only [rksRow, List.length_nil] at h1
        show n + _ = _
        omega
      go_wp2_with fail
      refine Met.intro ?_
      refine HJ1.out _ _ ?_
      refine EndC.of (hs.length - (s + 1)) (.int .i64 ((s : Int) + 1)) (.int .i64 n) ?_ (by omega) ?_
      · rfl
      exact ⟨s + 1, n, PS, PK, by omega, rfl, by go_num, rfl, P9.out, TH.out.ses NH.out.hA NH.out.hp L3.out hk2, CN2.out⟩
  · as_aux_lemma =>
    have hs2 : s = hs.length := by omega
    have hnP : n = P.length := by
      have h1 := CN.out
      rw [hs2, List.drop_length] at h1
      simp only [rksAll, List.length_nil] at h1
      have := HPA.out
      omega
    rw [hs2] at TH
    have TH2 : Hid (WT hs A zs P hs.length 0 (-1) PS PK) := TH.out
    clear TH hs2 CN hnA
    subst hnP
    go_wp2_with fail
    refine HKz.out _ _ ?_
    exact wit30 w R hs T cap HH.out SS.out F A zs NM vars vers os ss fa ows G J NH.out WW.out P QH.out h12 g c b0 PS PK wr P9.out (fun i u s k h1 h2 => TH2.out.all NH.out.hA NH.out.hp h1 h2)
end Go.Proofs.YbulkctquGreatFmt

/-
  The law of the serial histories: whole.
-/
import Derived.Test.YbulkctquGreatFmtLawT
import Derived.Test.YbulkctquGreatFmtLawE
import Derived.Test.YbulkctquGreatFmtLawO
import Derived.Test.YbulkctquGreatFmtLex
import Derived.Deep.RegionHeld3
import Derived.Deep.RegionWith
import Derived.BigQuiet
import Derived.Laws.Rows
import Derived.Deep.DeepCutAuto
namespace Go.Proofs.YbulkctquGreatFmt
open Go.ChangeShapes Go.WideShapes Go.ChangeAt Go.RowKit Go.Ord
set_option linter.unusedVariables false
attribute [-go_sem] Go.Builtin.append_ Go.Instr.buildSlice
set_option maxHeartbeats 16000000 in
set_option maxRecDepth 100000 in
theorem law4 (w : World) (a : Option Addr) (ts : List CT) (cap : Nat) (A : ArgE w a ts) : Calls Ybaz.prog 4 #[.slice a ts.length cap] w (fun e w2 => e = .returned (.bool true) ∧ Below w.heap.size w w2) := by
  have AH : Hid _ := A
  clear A
  by_cases h12 : 12 < ts.length
  · as_aux_lemma =>
    go_enter Ybaz.func4, Ybaz.ntmps4
    go_wp2_with fail
    go_ret
    exact ⟨rfl, Below.refl _ _⟩
  go_enter Ybaz.func4, Ybaz.ntmps4
  go_upto_region 3 with fail
  rename_i Ky hKy Kz hKz
  have HKy : Hid _ := hKy
  have HKz : Hid _ := hKz
  clear hKy hKz
  go_wp2_with fail
  refine HKz.out _ _ ?_
  clear HKz
  go_wp2_with fail
  refine wp_loopC [none, none, some none, none, some none, none, none, none, none, none, none, none, none, none, none, none, none, none, none, none, none, none, none, none, none, none, some (some false), some none, some none, some none, some none, some none, some none, some none, some none, none, none, none, none, none, none, none, none, none, none, none, none, none, none, none, none, none, none, none, none, none, none, none, none, none, none, none, none, none, none, none, none, none, none, none, none, none, none, none, none, none, none, none, none, none, none, none, none, none, none, none, none, none, none, none, none, none, none, none, none, none, none, none, none, none, none, none, none, none, none, none, none, none, none, none, none, none, none, none, none, none, none, none, none, none, none, none, none, none, none, none, none, none, none, none, none, none, none, none, none, none, none, none, none, none, none, none, none, none, none, none, none, none, none, none, none, none, none, none, none, none, none, none, none, none, none, none, none, none, none, none, none, none, none, none, none, none] (fun m x _ wl => ∃ i, i ≤ ts.length ∧ m = ts.length - i ∧ x = .int .i64 i ∧ Below w.heap.size w wl ∧ ∀ (j : Nat) (t : CT), j < i → ts[j]? = some t → t.evs.length ≤ 64) ts.length (.int .i64 0) undef rfl ⟨0, by omega, by omega, rfl, Below.refl _ _, fun j t hj => absurd hj (by omega)⟩ ?_
  intro m uu x1 y1 wl J1 K1 hrel hJ1 hK1
  obtain ⟨i, hi, rfl, rfl, h1, h2⟩ := hrel
  have HJ1 : Hid _ := hJ1
  have BH : Hid _ := h1
  have SH : Hid (∀ (j : Nat) (t : CT), j < i → ts[j]? = some t → t.evs.length ≤ 64) := h2
  clear hJ1 h1 h2
  dsimp only [fillC, Nat.reduceAdd]
  by_cases hlt : i < ts.length
  · as_aux_lemma =>
    obtain ⟨t, ht⟩ := has_at ts hlt
    have HT : Hid (ts[i]? = some t) := ht
    obtain ⟨bA, oA, ea, ec, hea, a0, a1, a2, hs, av, hml⟩ := AH.out.at_ i t ht
    subst hea
    have a0 := cell_bel BH.out a0
    have a1 := cell_bel BH.out a1
    have a2 := cell_bel BH.out a2
    have B2 : Hid (Below w.heap.size w (wl.alloc (.cells #[.int .u8 t.s, .bool t.ab, .slice ea t.evs.length ec] 68))) := BH.out.trans ((Upd.alloc [] wl (.cells #[.int .u8 t.s, .bool t.ab, .slice ea t.evs.length ec] 68)).below BH.out.size (by simp))
    clear ht av
    by_cases h64 : 64 < t.evs.length
    · as_aux_lemma =>
      go_wp2_with fail
      go_ret
      exact ⟨rfl, B2.out⟩
    · as_aux_lemma =>
      go_wp2_with fail
      refine Met.intro ?_
      refine HJ1.out _ _ ?_
      refine EndC.of (ts.length - (i + 1)) (.int .i64 ((i : Int) + 1)) undef ?_ (by omega) ?_
      · rfl
      refine ⟨i + 1, by omega, rfl, by go_num, B2.out, fun j t' hj htj => ?_⟩
      by_cases c : j < i
      · exact SH.out j t' c htj
      · have : j = i := by omega
        subst this
        rw [HT.out] at htj
        injection htj with htj
        subst htj
        omega
  · as_aux_lemma =>
    have hi2 : i = ts.length := by omega
    have H64 : Hid (∀ t ∈ ts, t.evs.length ≤ 64) := fun t ht => by
      obtain ⟨j, hj⟩ := List.getElem?_of_mem ht
      exact SH.out j t (by have := (List.getElem?_eq_some_iff.mp hj).1; omega) hj
    clear SH
    go_wp2_with fail
    refine HKy.out _ _ ?_
    clear HKy
    have hmk : (Instr.makeSlice 27 (.int .i64 3) (.int .i64 3)).run Ybaz.prog wl = .ok (.slice (some ⟨wl.heap.size, 0, none⟩) 3 3) (wl.alloc (.cells (zeros (.slice none 0 0) (3 * 1)).toArray 30)) := mkSes.made 3 3 (by omega) (by omega) (by decide) wl
    have hmm := @run_makeMap Ybaz.prog
    go_upto_region 12 with fail
    rename_i Kx hKx Kz hKz
    have HKx : Hid _ := hKx
    have HKz : Hid _ := hKz
    clear hKx hKz
    obtain ⟨bS, hbS⟩ : ∃ z, z = wl.heap.size := ⟨_, rfl⟩
    obtain ⟨bH, hbH⟩ : ∃ z, z = wl.heap.size + 1 := ⟨_, rfl⟩
    obtain ⟨bM, hbM⟩ : ∃ z, z = wl.heap.size + 2 := ⟨_, rfl⟩
    obtain ⟨W1, hW1⟩ : ∃ z : World, z = lawW wl := ⟨_, rfl⟩
    have HB0 : Hid (HB w W1 bH bS bM [d00, d00, d00] h00.hs h00.es.cur) := by
      rw [hW1, hbS, hbH, hbM]; exact HB.start BH.out
    rw [show ((wl.alloc (.cells (zeros (.slice none 0 0) 3).toArray 30)).alloc (.cells #[.slice (some ⟨wl.heap.size, 0, none⟩) 3 3] 29)).alloc (.map #[] 0) = W1 from hW1.symm]
    rw [← hbM, ← hbH]
    clear hmk hmm hW1 hbS hbH hbM
    go_wp2_with fail
    refine HKz.out _ _ ?_
    clear HKz
    go_wp2_with fail
    clear BH
    refine wp_loopC [none, none, none, none, none, none, none, some (some true), none, some none, some none, some none, some none, some none, some none, some none, some none, none, none, none, none, none, none, none, none, none, none, none, none, none, none, none, none, none, none, none, none, none, none, none, some (some false), some none, some none, some none, some none, some none, some none, some none, some none, some none, some none, some none, some none, some none, some none, some none, some none, some none, some none, some none, some none, some none, some none, some none, some none, some none, some none, some none, some none, some none, some none, some none, some none, some none, some none, some none, some none, some none, some none, some none, some none, some none, some none, some none, some none, some none, some none, some none, some none, some none, some none, some none, some none, some none, some none, some none, some none, some none, some none, some none, some none, some none, some none, some none, some none, some none, some none, some none, some none, some none, some none, some none, some none, some none, some none, some none, some none, some none, some none, some none, some none, some none, some none, none, none, none, none, none, none, none, none, none, none, none, none, none, none, none, none, none, none, none, none, none, none, none, none, none, none, none, none, none, none, none, none, none, none, none, none, none, none, none, none, none, none, none, none, none, none, none, none, none] (fun m x y wl => ∃ (i : Nat) (D : List SD), i ≤ ts.length ∧ m = ts.length - i ∧ x = .int .i64 i ∧ y = .int .u64 (hist (ts.take i)).es.ver ∧ HB w wl bH bS bM D (hist (ts.take i)).hs (hist (ts.take i)).es.cur) ts.length (.int .i64 0) (.int .u64 0) rfl ⟨0, [d00, d00, d00], by omega, by omega, rfl, rfl, HB0.out⟩ ?_
    intro m uv x1 y1 wr J1 K1 hrel hJ1 hK1
    obtain ⟨i, D, hi, rfl, rfl, rfl, h1⟩ := hrel
    clear HB0
    have HJ1 : Hid _ := hJ1
    have HH : Hid _ := h1
    clear hJ1 h1
    dsimp only [fillC, Nat.reduceAdd]
    by_cases hlt : i < ts.length
    · as_aux_lemma =>
      obtain ⟨t, ht⟩ := has_at ts hlt
      have HT : Hid (ts[i]? = some t) := ht
      have tk : ts.take (i + 1) = ts.take i ++ [t] := take_snoc ht
      have htm : ∀ x ∈ ts.take i, x ∈ ts := fun x hx => List.mem_of_mem_take hx
      obtain ⟨_, _, _, _, hb12, hb768⟩ := hist_ser (ts.take i) (by rw [List.length_take]; omega) (fun x hx => H64.out x (htm x hx))
      have h64 := H64.out t (List.mem_of_getElem? ht)
      obtain ⟨h0, hh0⟩ : ∃ z, z = hist (ts.take i) := ⟨_, rfl⟩
      have NXT : Hid (hist (ts.take (i + 1)) = hStep h0 t) := by show _ = _; rw [tk, hist_snoc, ← hh0]
      rw [← hh0] at HH hb12 hb768 ⊢
      have HB12 : Hid (∀ l ∈ h0.hs, l.length ≤ 12) := hb12
      obtain ⟨bA, oA, ea, ec, hea, a0, a1, a2, hs, av, hml⟩ := AH.out.at_ i t ht
      subst hea
      have AV : Hid _ := av
      have a0 := cell_bel HH.out.bel a0
      have a1 := cell_bel HH.out.bel a1
      have a2 := cell_bel HH.out.bel a2
      clear ht av tk htm hb12 hh0
      have hmk := mkEvs.made t.evs.length t.evs.length (Nat.le_refl _) (by omega) (by decide)
      go_upto_region 15 with fail
      obtain ⟨bT, hbT⟩ : ∃ z, z = wr.heap.size := ⟨_, rfl⟩
      obtain ⟨W1, hW1⟩ : ∃ z : World, z = wr.alloc (.cells #[.int .u8 t.s, .bool t.ab, .slice ea t.evs.length ec] 68) := ⟨_, rfl⟩
      have U1 : Upd [] wr W1 := by rw [hW1]; exact Upd.alloc _ _ _
      have kT : Blk W1 bT 68 #[.int .u8 t.s, .bool t.ab, .slice ea t.evs.length ec] := by rw [hW1, hbT]; exact Blk.new _ _ _
      rw [← hW1, ← hbT]
      have H1 : Hid _ := HH.out.new U1
      have T1 : Hid (Blk W1 bT 68 #[.int .u8 t.s, .bool t.ab, .slice ea t.evs.length ec]) := kT
      have x0 : W1.cell? ⟨bT, 0, none⟩ = some (.int .u8 t.s) := kT.cell 0
      have x1 : W1.cell? ⟨bT, 1, none⟩ = some (.bool t.ab) := kT.cell 1
      have x2 : W1.cell? ⟨bT, 2, none⟩ = some (.slice ea t.evs.length ec) := kT.cell 2
      clear hW1 hbT U1 kT a0 a1 a2 HH
      go_upto_region 16 with fail
      obtain ⟨s, hs3⟩ : ∃ z, z = t.s % 3 := ⟨_, rfl⟩
      have HS : Hid (s = t.s % 3) := hs3
      have hs4 : s < 3 := by omega
      rw [show ((t.s : Int) % 3) = (s : Int) by omega]
      clear hs3 x0 hs
      go_upto_region 17 with fail
      rename_i Kd hKd Kc hKc
      have HKc : Hid _ := hKc
      have HKd : Hid _ := hKd
      clear hKc hKd
      obtain ⟨bE, hbE⟩ : ∃ z, z = W1.heap.size := ⟨_, rfl⟩
      obtain ⟨W2, hW2⟩ : ∃ z : World, z = W1.alloc (.cells (zeros (.agg #[.int .u8 0, .int .u64 0, .int .u64 0, .bool false]) (t.evs.length * 4)).toArray 37) := ⟨_, rfl⟩
      have U2 : Upd [] W1 W2 := by rw [hW2]; exact Upd.alloc _ _ _
      have R2 : Hid (RowAt bE t.evs.length [] W2) := by rw [hW2, hbE]; exact RowAt.made W1 _ (by omega)
      rw [← hW2, ← hbE]
      have hgE : w.heap.size ≤ bE := by have := H1.out.bel.size; omega
      have NE : Hid (∀ (s : Nat) (d : SD), D[s]? = some d → bE ∉ d.eb) := fun s d hd hm => by
        obtain ⟨c9, hc9⟩ := H1.out.eb_ty hd bE hm
        have := Blk.lt hc9
        omega
      have H2 : Hid _ := H1.out.new U2
      have T2 : Hid (Blk W2 bT 68 #[.int .u8 t.s, .bool t.ab, .slice ea t.evs.length ec]) := T1.out.keep U2 (by simp)
      have x2 : W2.cell? ⟨bT, 2, none⟩ = some (.slice ea t.evs.length ec) := T2.out.cell 2
      clear hW2 hbE U2 hmk x1 T1 H1
      go_wp2_with fail
      refine HKc.out _ _ ?_
      clear HKc x2
      refine wp_cutC [none, none, none, none, none, none, none, some (some false), none, none, none, none, some none, some none, some none, some none, some none, none, none, none, none, none, none, none, none, none, none, none, none, none, none, none, none, none, none, none, none, none, none, none, none, none, none, none, none, none, none, none, none, none, none, none, none, none, none, some none, some none, some none, some none, some none, some none, some none, some none, some none, some none, some none, some none, some none, some none, some none, some none, some none, some none, some none, some none, some none, some none, some none, some none, some none, some none, some none, some none, some none, some none, some none, some none, some none, some none, some none, some none, some none, some none, some none, some none, some none, some none, some none, some none, some none, some none, some none, some none, some none, some none, some none, none, none, none, none, none, none, none, none, none, none, none, none, none, none, none, none, none, none, none, none, none, none, none, none, none, none, none, none, none, none, none, none, none, none, none, none, none, none, none, none, none, none, none, none, none, none, none, none, none, none, none, none, none, none, none, none, none, none, none, none, none, none, none, none, none, none] (fun x _ wc => x = .int .u64 (esAt t.ab h0.es t.evs).ver ∧ HB w wc bH bS bM D h0.hs (esAt t.ab h0.es t.evs).cur ∧ RowAt bE t.evs.length (evsAt t.ab h0.es t.evs) wc ∧ Blk wc bT 68 #[.int .u8 t.s, .bool t.ab, .slice ea t.evs.length ec]) (fun J K' hJ hK => law18 w W2 bH bS bM D h0.hs h0.es t bT bE ea ec H2.out AV.out h64 (by omega) R2.out NE.out hgE T2.out J K' _ hJ hK) ?_
      intro u8 x8 y8 wc hcut
      obtain ⟨rfl, h1, h2, h3⟩ := hcut
      clear H2 R2 T2 NE
      dsimp only [fillC, Nat.reduceAdd]
      refine HKd.out _ _ ?_
      clear HKd
      obtain ⟨W3, hW3⟩ : ∃ z, z = wc.drew := ⟨_, rfl⟩
      have U3 : Upd [] wc W3 := by rw [hW3]; exact Upd.drew [] _
      have h1 := h1.new U3
      have h2 := RowAt.keep h2 U3 (by simp)
      have h3 := h3.keep U3 (by simp)
      have x1 : W3.cell? ⟨bT, 1, none⟩ = some (.bool t.ab) := h3.cell 1
      obtain ⟨d, l, g, c, w6, _, hdn, hl9, cS, cH, hrun, k6, z6, ltS, ltH, ⟨fp, uf, tf⟩, D', HN⟩ := HB.step h1 h2 (fun l hl => by have := HB12.out l hl; omega)
      have HNH : Hid _ := HN
      rw [← HS.out] at cS k6 z6 HNH
      have k7 : w6.cell? ⟨bH, 0, none⟩ = some (.slice (some ⟨bS, 0, none⟩) 3 3) := uf.cell cH (fun hm => by obtain ⟨c9, hc9⟩ := tf _ hm; exact absurd (Blk.ty hc9 h1.h) (by decide))
      have k8 : w6.cell? ⟨bT, 1, none⟩ = some (.bool t.ab) := uf.cell x1 (fun hm => by obtain ⟨c9, hc9⟩ := tf _ hm; exact absurd (Blk.ty hc9 h3) (by decide))
      have hbs := bs30
      have hs5 : (s : Int) < 3 := by omega
      have HSH : Hid (W3.cell? ⟨bH, 0, none⟩ = some (.slice (some ⟨bS, 0, none⟩) 3 3) ∧ W3.cell? ⟨bS, s, none⟩ = some (.slice d.sv.a d.sv.n d.sv.c) ∧ W3.cell? ⟨bT, 1, none⟩ = some (.bool t.ab)) := ⟨cH, cS, x1⟩
      have hdl : d.sv.n < 1000 := by omega
      clear hdn h1 h2 h3 HN uf tf U3
      go_upto_region 33 with fail
      refine wp_region_noPanic ?_
      refine wp_lex (fun z => z.cell? ⟨bH, 0, none⟩ = some (.slice (some ⟨bS, 0, none⟩) 3 3) ∧ z.cell? ⟨bS, s, none⟩ = some (.slice d.sv.a d.sv.n d.sv.c) ∧ z.cell? ⟨bT, 1, none⟩ = some (.bool t.ab)) (fun k => decide (k < 15)) (fun k => decide (k < 13)) (by kernel_rfl) (by kernel_rfl) (by kernel_rfl) (fun _ _ _ _ _ h => h) ?_
      rw [← hW3]
      clear hW3
      iterate 13 (
        refine LexN.take rfl HSH.out ?_ rfl ?_ ?_
        rotate_left
        · intro z hz
          obtain ⟨hz1, hz2, hz3⟩ := hz
          go_simp
          try rw [if_pos hs5]
          try with_reducible rfl
        simp only [Act.put, List.setIfInBounds_toArray, List.set_cons_zero, List.set_cons_succ])
      refine LexN.step rfl rfl rfl (fun K hK => ?_)
      go_simp
      refine hK.out _ _ (fun _ => ⟨(Upd.alloc [] W3 _).cell cH (by simp), (Upd.alloc [] W3 _).cell cS (by simp), (Upd.alloc [] W3 _).cell x1 (by simp)⟩) ?_
      refine LexN.step rfl rfl rfl (fun K hK => ?_)
      go_simp
      refine hK.out _ _ (fun _ => ⟨k7, k6, k8⟩) ?_
      iterate 2 (
        refine LexN.step rfl rfl rfl (fun K hK => ?_)
        go_simp
        refine hK.out _ _ (fun h => by cases h) ?_)
      refine LexN.nil (NoPanic.normal ?_)
      go_wp2_with fail
      refine Met.intro ?_
      refine HJ1.out _ _ ?_
      refine EndC.of (ts.length - (i + 1)) (.int .i64 ((i : Int) + 1)) (.int .u64 (esAt t.ab h0.es t.evs).ver) ?_ (by omega) ?_
      · rfl
      refine ⟨i + 1, D', by omega, rfl, by go_num, ?_, ?_⟩
      · rw [NXT.out]; rfl
      · rw [NXT.out]; exact HNH.out
    · as_aux_lemma =>
      have hi2 : i = ts.length := by omega
      obtain ⟨⟨T, S⟩, q1, q2, q3, q4, q5⟩ := hist_ser ts (by omega) H64.out
      rw [hi2, List.take_length] at HH ⊢
      obtain ⟨R, hR, HE⟩ := HH.out.hist
      have hbel := HH.out.bel
      have cH : Blk wr bH 29 #[.slice (some ⟨R.top, 0, none⟩) (hist ts).hs.length 3] := by rw [hR, q3]; exact HH.out.h
      clear hi2
      go_wp2_with fail
      refine HKx.out _ _ ?_
      exact law35 w wr R (hist ts).hs T bH hbel HE S q1 q2 S.vb cH
end Go.Proofs.YbulkctquGreatFmt

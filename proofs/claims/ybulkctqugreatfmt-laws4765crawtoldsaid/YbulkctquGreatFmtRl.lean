/-
  The raw law: whole.
-/
import Derived.Test.YbulkctquGreatFmtRlB
import Derived.Deep.RegionWith
import Derived.BigQuiet
import Derived.Laws.Rows
import Derived.Deep.DeepCutAuto
import Derived.Lib.SliceRun
namespace Go.Proofs.YbulkctquGreatFmt
open Go.ChangeShapes Go.WideShapes Go.ChangeAt Go.RowKit Go.Ord
set_option linter.unusedVariables false
attribute [-go_sem] Go.Builtin.append_ Go.Instr.buildSlice Go.Instr.build

theorem totR_snoc {ss : List (List RwT)} {i : Nat} {l : List RwT} (h : ss[i]? = some l) : totR (ss.take (i + 1)) = totR (ss.take i) + l.length := by
  unfold totR
  rw [take_snoc h]; simp
set_option maxHeartbeats 16000000 in
set_option maxRecDepth 100000 in
theorem law3 (w : World) (a : Option Addr) (ss : List (List RwT)) (cap0 : Nat) (AR : ArgRS w a ss) (NO : NilOr a ss.length cap0) (hsz : ∀ l ∈ ss, l.length < 140737488355328) (K : Few ss → KS w (hsR ss)) :
    Calls Ybaz.prog 3 #[.slice a ss.length cap0] w (fun e w2 => e = .returned (.bool true) ∧ Below w.heap.size w w2) := by
  have AH : Hid _ := AR
  have NOH : Hid _ := NO
  have KH : Hid (Few ss → KS w (hsR ss)) := K
  have HSZ : Hid (∀ l ∈ ss, l.length < 140737488355328) := hsz
  clear AR NO K hsz
  by_cases h8 : 8 < ss.length
  · as_aux_lemma =>
    go_enter Ybaz.func3, Ybaz.ntmps3
    go_wp2_with fail
    go_ret
    exact ⟨rfl, Below.refl _ _⟩
  go_enter Ybaz.func3, Ybaz.ntmps3
  go_upto_region 4 with fail
  rename_i Kz hKz _ _
  have HKz : Hid _ := hKz
  clear hKz
  go_wp2_with fail
  refine wp_loopC [none, none, some none, some (some true), none, some none, none, some none, none, none, none, none, none, none, none, none, none, none, none, none, none, none, none, none, none, none, none, none, none, none, none, none, none, none, none, none, none, none, some (some false), some none, some none, some none, some none, some none, some none, some none, some none, some none, some none, some none, some none, some none, some none, some none, some none, some none, some none, some none, some none, some none, none, none, none, none, none, none, none, none, none, none, none, none, none, none, none, none, none, none, none, none, none, none, none, none, none, none, none, none, none, none, none, none, none, none, none, none, none, none, none, none, none, none, none, none, none, none, none, none, none, none, none, none, none, none, none, none, none, none, none, none, none, none, none, none, none, none, none, none, none, none, none, none, none, none, none, none, none, none, none, none, none, none, none, none, none, none, none, none, none, none, none, none, none, none, none, none, none, none, none, none, none, none, none, none, none, none, none, none, none, none, none, none, none, none, none, none, none, none, none, none, none, none, none, none, none, none, none, none, none, none, none, none, none, none, none, none, none, none, none, none, none, none, none, none, none, none, none, none, none, none, none, none, none, none, none, none, none, none, none, none, none, none, none, none, none, none, none, none, none, none, none, none, none, none, none, none, none, none, none, none, none, none, none, none, none, none, none, none, none, none, none, none, none, none, none, none, none, none, none, none, none, none, none, none, none, none, none, none, none, none, none, none, none, none, none, none, none, none, none, none, none, none, none, none, none, none, none, none, none, none, none, none, none, none, none, none, none, none, none, none, none, none, none, none, none, none, none, none, none, none, none, none, none, none, none, none, none, none, none, none, none, none, none, none, none, none, none, none] (fun nn tx ty wl => ∃ (i : Nat), i ≤ ss.length ∧ nn = ss.length - i ∧ tx = .int .i64 i ∧ ty = .int .i64 (totR (ss.take i)) ∧ totR (ss.take i) ≤ 12 ∧ (∀ (j : Nat) (l : List RwT), j < i → ss[j]? = some l → ∀ t ∈ l, t.evs.length ≤ 64) ∧ Below w.heap.size w wl) ss.length (.int .i64 0) (.int .i64 0) rfl ⟨0, by omega, by omega, rfl, rfl, by simp [totR], fun j l h => by omega, Below.refl _ _⟩ ?_
  intro n1 uu x1 y1 wl J1 K1 hrel hJ1 hK1
  obtain ⟨i, hi, rfl, rfl, rfl, h12, h1, h2⟩ := hrel
  have HJ1 : Hid _ := hJ1
  have BH : Hid (Below w.heap.size w wl) := h2
  have SH : Hid (∀ (j : Nat) (l : List RwT), j < i → ss[j]? = some l → ∀ t ∈ l, t.evs.length ≤ 64) := h1
  obtain ⟨tt, htt⟩ : ∃ z, z = totR (ss.take i) := ⟨_, rfl⟩
  rw [← htt] at h12 ⊢
  have HTT : Hid (tt = totR (ss.take i)) := htt
  clear hJ1 h1 h2 htt
  dsimp only [fillC, Nat.reduceAdd]
  by_cases hlt : i < ss.length
  · as_aux_lemma =>
    obtain ⟨l, hl⟩ := has_at ss hlt
    have LK : Hid (ss[i]? = some l) := hl
    obtain ⟨bA, oA, ea, ec, hea, a0, av, hml2, hno⟩ := AH.out.at_ i l hl
    subst hea
    have a0 := cell_bel BH.out a0
    have AV : Hid _ := av
    have hlm := HSZ.out l (List.mem_of_getElem? hl)
    clear hl av hno hml2
    by_cases h13 : 12 < tt + l.length
    · as_aux_lemma =>
      go_wp2_with fail
      go_ret
      exact ⟨rfl, BH.out⟩
    have hl12 : l.length ≤ 12 := by omega
    go_wp2_with fail
    clear a0
    refine wp_loopC [none, none, some none, none, none, none, none, some none, none, none, none, none, none, none, none, none, none, none, none, none, none, none, none, none, none, none, none, none, none, none, none, none, none, none, none, none, none, none, none, none, none, none, none, none, none, none, none, none, none, none, some (some false), some none, some none, some none, some none, some none, some none, some none, some none, none, none, none, none, none, none, none, none, none, none, none, none, none, none, none, none, none, none, none, none, none, none, none, none, none, none, none, none, none, none, none, none, none, none, none, none, none, none, none, none, none, none, none, none, none, none, none, none, none, none, none, none, none, none, none, none, none, none, none, none, none, none, none, none, none, none, none, none, none, none, none, none, none, none, none, none, none, none, none, none, none, none, none, none, none, none, none, none, none, none, none, none, none, none, none, none, none, none, none, none, none, none, none, none, none, none, none, none, none, none, none, none, none, none, none, none, none, none, none, none, none, none, none, none, none, none, none, none, none, none, none, none, none, none, none, none, none, none, none, none, none, none, none, none, none, none, none, none, none, none, none, none, none, none, none, none, none, none, none, none, none, none, none, none, none, none, none, none, none, none, none, none, none, none, none, none, none, none, none, none, none, none, none, none, none, none, none, none, none, none, none, none, none, none, none, none, none, none, none, none, none, none, none, none, none, none, none, none, none, none, none, none, none, none, none, none, none, none, none, none, none, none, none, none, none, none, none, none, none, none, none, none, none, none, none, none, none, none, none, none, none, none, none, none, none, none, none, none, none, none, none, none, none, none, none, none, none, none, none, none, none, none, none, none, none, none, none, none, none] (fun nn tx _ wy => ∃ (k : Nat), k ≤ l.length ∧ nn = l.length - k ∧ tx = .int .i64 k ∧ (∀ (j : Nat) (t : RwT), j < k → l[j]? = some t → t.evs.length ≤ 64) ∧ Below w.heap.size w wy) l.length (.int .i64 0) undef rfl ⟨0, by omega, by omega, rfl, fun j l h => by omega, BH.out⟩ ?_
    intro n2 uv x2 y2 wy J2 K2 hrel hJ2 hK2
    obtain ⟨k, hk, rfl, rfl, h1, h2⟩ := hrel
    have HJ2 : Hid _ := hJ2
    have BY : Hid (Below w.heap.size w wy) := h2
    have TH : Hid (∀ (j : Nat) (t : RwT), j < k → l[j]? = some t → t.evs.length ≤ 64) := h1
    clear hJ2 h1 h2
    dsimp only [fillC, Nat.reduceAdd]
    by_cases hltk : k < l.length
    · as_aux_lemma =>
      obtain ⟨t, ht⟩ := has_at l hltk
      have TK : Hid (l[k]? = some t) := ht
      obtain ⟨bB, oB, ea2, ec2, hea2, a1, a2, _, hml3, _⟩ := AV.out.at_ k t ht
      subst hea2
      have a1 := cell_bel BY.out a1
      have a2 := cell_bel BY.out a2
      have B2 : Hid (Below w.heap.size w (wy.alloc (.cells #[.bool t.com, .slice ea2 t.evs.length ec2] 26))) := BY.out.trans ((Upd.alloc [] _ _).below BY.out.size (by simp))
      clear ht
      by_cases h64 : 64 < t.evs.length
      · as_aux_lemma =>
        go_wp2_with fail
        go_ret
        exact ⟨rfl, B2.out⟩
      · as_aux_lemma =>
        have TN : Hid (∀ (j : Nat) (t : RwT), j < k + 1 → l[j]? = some t → t.evs.length ≤ 64) := fun j t' hj h' => by
          by_cases c : j = k
          · subst c
            rw [TK.out] at h'; injection h' with h'; subst h'; omega
          · exact TH.out j t' (by omega) h'
        go_wp2_with fail
        refine Met.intro ?_
        refine HJ2.out _ _ ?_
        refine EndC.of (l.length - (k + 1)) (.int .i64 (((k : Int) + 1) : Int)) undef ?_ (by omega) ?_
        · rfl
        exact ⟨k + 1, by omega, rfl, by go_num, TN.out, B2.out⟩
    · as_aux_lemma =>
      have hk2 : k = l.length := by omega
      have TE : Hid (∀ t ∈ l, t.evs.length ≤ 64) := fun t ht => by
        obtain ⟨j, hj⟩ := List.getElem?_of_mem ht
        exact TH.out j t (by have := (List.getElem?_eq_some_iff.mp hj).1; omega) hj
      have SN : Hid (∀ (j : Nat) (l' : List RwT), j < i + 1 → ss[j]? = some l' → ∀ t ∈ l', t.evs.length ≤ 64) := fun j l' hj h' => by
        by_cases c : j = i
        · subst c
          rw [LK.out] at h'; injection h' with h'; subst h'; exact TE.out
        · exact SH.out j l' (by omega) h'
      have TS : Hid (totR (ss.take (i + 1)) = tt + l.length) := by show _ = _; rw [totR_snoc LK.out, ← HTT.out]
      clear hk2
      go_wp2_with fail
      refine Met.intro ?_
      refine HJ1.out _ _ ?_
      refine EndC.of (ss.length - (i + 1)) (.int .i64 ((i : Int) + 1)) (.int .i64 ((tt : Int) + (l.length : Int))) ?_ (by omega) ?_
      · rfl
      exact ⟨i + 1, by omega, rfl, by go_num, by rw [TS.out]; go_num, by rw [TS.out]; omega, SN.out, BY.out⟩
  · as_aux_lemma =>
    have hi2 : i = ss.length := by omega
    have FW : Hid (Few ss) := by
      refine ⟨by omega, ?_, fun l hl t ht => ?_⟩
      · have := HTT.out
        rw [hi2, List.take_length] at this
        omega
      · obtain ⟨j, hj⟩ := List.getElem?_of_mem hl
        exact SH.out j l (by have := (List.getElem?_eq_some_iff.mp hj).1; omega) hj t ht
    clear hi2
    go_wp2_with fail
    refine HKz.out _ _ ?_
    exact build17 w wl a ss cap0 AH.out NOH.out FW.out BH.out (KH.out FW.out)
end Go.Proofs.YbulkctquGreatFmt

/-
  tangle: propagate, walked.
-/
import Derived.Test.YbulkctquGreatFmtTgF
namespace Go.Proofs.YbulkctquGreatFmt
open Go.ChangeShapes Go.WideShapes Go.ChangeAt Go.RowKit Go.Ord
set_option linter.unusedVariables false
attribute [local go_sem ↓] Go.wp_at_zero Go.wp_at_succ

def negs (l : List Int) : Nat := l.countP (fun x => x == -1)
theorem negs_take {l : List Int} {i : Nat} {x : Int} (h : l[i]? = some x) : negs (l.take (i + 1)) = negs (l.take i) + (if x = -1 then 1 else 0) := by
  unfold negs
  rw [List.take_add_one, h, Option.toList_some, List.countP_append]
  by_cases e : x = -1
  · subst e; simp
  · simp [e]
theorem negs_le (l : List Int) (i : Nat) : negs (l.take i) ≤ negs l := by
  unfold negs
  exact List.Sublist.countP_le (List.take_sublist _ _)
/-- What propagate hands back. -/
def PrPost (d bW cW bC cC bE bT : Nat) (fV : List Nat) (ws : List (Alt × Alt)) (B : List (List Nat)) (J : List Bool) (g : GG) (fT : List Nat) (tr : List Stp) (K : Nat) (w : World) : Ending → World → Prop := fun e w' =>
  ∃ (b : Bool) (g' : GG) (fT' : List Nat) (G' : List (List Nat)) (ch' se' : List Int) (st' : Int) (nw : List Stp), e = .returned (.bool b) ∧ TX d bW cW bC cC bE bT fV ws B J g' fT' G' ch' se' st' (tr ++ nw) w' ∧ (∀ s ∈ nw, s.g = false) ∧
    (b = true → (∀ c : Nat, ch'[c]? = some (-1) → OpenW G' (altOf ws c 0) ∧ OpenW G' (altOf ws c 1)) ∧ ((tr ++ nw).length < ws.length → st' + (2 * Wk (ws.length - (tr ++ nw).length - 1) : Nat) ≤ K)) ∧ st' ≤ K ∧ Upd (txFp d g bC bE bT fT) w w' ∧ ∀ k ∈ txFp d g' bC bE bT fT', k ∈ txFp d g bC bE bT fT ∨ w.heap.size ≤ k

set_option maxHeartbeats 8000000 in
set_option maxRecDepth 100000 in
theorem propagate111 {d bW cW bC cC bE bT : Nat} {fV : List Nat} {ws : List (Alt × Alt)} {B : List (List Nat)} {J : List Bool} {g : GG} {fT : List Nat} {G : List (List Nat)} {ch se : List Int} {st : Int} {tr : List Stp} {w : World} (H : TX d bW cW bC cC bE bT fV ws B J g fT G ch se st tr w) (KK : TK ws B)
    (K : Nat) (hK : st + (Wk (ws.length - tr.length) : Nat) ≤ K) (hK2 : K < 9223372036854775000) :
    Calls Ybaz.prog 111 #[.pointer (some ⟨d, 0, none⟩), .func (.func 112) #[] #[.pointer (some ⟨bT, 0, none⟩)]] w (PrPost d bW cW bC cC bE bT fV ws B J g fT tr K w) := by
  have HH : Hid _ := H
  have KH : Hid _ := KK
  have hwl : ws.length ≤ 60 := KK.wl
  have HK : Hid (st + (Wk (ws.length - tr.length) : Nat) ≤ K) := hK
  clear H KK hK
  go_enter Ybaz.func111, Ybaz.ntmps111
  go_wp2_with fail
  go_loopg [5] (2 * (ws.length - tr.length) + 1) (fun m t5 wr => ∃ (b : Bool) (g1 : GG) (fT1 : List Nat) (G1 : List (List Nat)) (ch1 se1 : List Int) (st1 : Int) (nw : List Stp), t5 = .bool b ∧ m = 2 * (ws.length - (tr ++ nw).length) + (if b = true then 1 else 0) ∧ TX d bW cW bC cC bE bT fV ws B J g1 fT1 G1 ch1 se1 st1 (tr ++ nw) wr ∧ (∀ s ∈ nw, s.g = false) ∧ (b = true → st1 + (Wk (ws.length - (tr ++ nw).length) : Nat) ≤ K) ∧
    (b = false → (∀ c : Nat, ch1[c]? = some (-1) → OpenW G1 (altOf ws c 0) ∧ OpenW G1 (altOf ws c 1)) ∧ ((tr ++ nw).length < ws.length → st1 + (2 * Wk (ws.length - (tr ++ nw).length - 1) : Nat) ≤ K) ∧ st1 ≤ K) ∧ Upd (txFp d g bC bE bT fT) w wr ∧ ∀ k ∈ txFp d g1 bC bE bT fT1, k ∈ txFp d g bC bE bT fT ∨ w.heap.size ≤ k)
  case atStart => exact ⟨true, g, fT, G, ch, se, st, [], rfl, by simp, by simpa using HH.out, by simp, fun _ => by simpa using HK.out, by simp, Upd.refl _ _, fun k hk => .inl hk⟩
  case round =>
    obtain ⟨b, g1, fT1, G1, ch1, se1, st1, nw, rfl, rfl, h1, h2, h3, h4, h5, h6⟩ := hrel
    have T1 : Hid _ := h1
    have N1 : Hid (∀ s ∈ nw, s.g = false) := h2
    have U1 : Hid (Upd (txFp d g bC bE bT fT) w wr) := h5
    have F1 : Hid (∀ k ∈ txFp d g1 bC bE bT fT1, k ∈ txFp d g bC bE bT fT ∨ w.heap.size ≤ k) := h6
    cases b with
    | false =>
      have Q : Hid _ := h4 rfl
      clear h1 h2 h3 h4 h5 h6
      go_wp2_with fail
      go_ret
      exact ⟨true, g1, fT1, G1, ch1, se1, st1, nw, rfl, T1.out, N1.out, fun _ => ⟨Q.out.1, Q.out.2.1⟩, Q.out.2.2, U1.out, F1.out⟩
    | true =>
      have hk := h3 rfl
      have HK1 : Hid (st1 + (Wk (ws.length - (tr ++ nw).length) : Nat) ≤ K) := hk
      have e3 := (h1.tg.cell (j := 3) rfl).1
      have lch := h1.tg.lens.1
      have LCH : Hid (ch1.length = ws.length) := lch
      have CN : Hid (negs ch1 = ws.length - (tr ++ nw).length) := by
        have := h1.ts.cn
        show negs ch1 = ws.length - (tr ++ nw).length
        unfold negs; omega
      have S1 : Hid (0 ≤ st1) := h1.s0
      clear h1 h2 h3 h4 h5 h6 hk
      go_wp2_with fail
      clear e3
      go_loopw [5, 16] (fun t5 t16 wx => ∃ (i : Nat) (bb : Bool) (g2 : GG) (fT2 : List Nat) (G2 : List (List Nat)) (ch2 se2 : List Int) (st2 : Int) (mw : List Stp), i ≤ ws.length ∧ t16 = .int .i64 i ∧ t5 = .bool bb ∧ TX d bW cW bC cC bE bT fV ws B J g2 fT2 G2 ch2 se2 st2 (tr ++ nw ++ mw) wx ∧ (∀ s ∈ mw, s.g = false) ∧ (bb = true → 1 ≤ mw.length) ∧ (bb = false → mw = [] ∧ G2 = G1 ∧ ch2 = ch1 ∧ ∀ c : Nat, c < i → ch1[c]? = some (-1) → OpenW G1 (altOf ws c 0) ∧ OpenW G1 (altOf ws c 1)) ∧ (∀ c : Nat, i ≤ c → ch2[c]? = ch1[c]?) ∧ st2 ≤ st1 + (2 * negs (ch1.take i) : Nat) ∧ Upd (txFp d g bC bE bT fT) w wx ∧ ∀ k ∈ txFp d g2 bC bE bT fT2, k ∈ txFp d g bC bE bT fT ∨ w.heap.size ≤ k) (fun _ u _ => ws.length - (intOf u).toNat)
      case atStart => exact ⟨0, false, g1, fT1, G1, ch1, se1, st1, [], by omega, rfl, rfl, by simpa using T1.out, by simp, by simp, fun _ => ⟨rfl, rfl, rfl, fun c hc => by omega⟩, fun c hc => rfl, by simp [negs], U1.out, F1.out⟩
      case round =>
        obtain ⟨i, bb, g2, fT2, G2, ch2, se2, st2, mw, hi, rfl, rfl, q1, q2, q3, q4, q5, q6, q7, q8⟩ := hrel
        have T2 : Hid _ := q1
        have N2 : Hid (∀ s ∈ mw, s.g = false) := q2
        have M2 : Hid (bb = true → 1 ≤ mw.length) := q3
        have O2 : Hid (bb = false → mw = [] ∧ G2 = G1 ∧ ch2 = ch1 ∧ ∀ c : Nat, c < i → ch1[c]? = some (-1) → OpenW G1 (altOf ws c 0) ∧ OpenW G1 (altOf ws c 1)) := q4
        have C2 : Hid (∀ c : Nat, i ≤ c → ch2[c]? = ch1[c]?) := q5
        have V2 : Hid (st2 ≤ st1 + (2 * negs (ch1.take i) : Nat)) := q6
        have U2 : Hid (Upd (txFp d g bC bE bT fT) w wr) := q7
        have F2 : Hid (∀ k ∈ txFp d g2 bC bE bT fT2, k ∈ txFp d g bC bE bT fT ∨ w.heap.size ≤ k) := q8
        by_cases hlt : i < ws.length
        · as_aux_lemma =>
          obtain ⟨z, hz⟩ := has_at ch1 (k := i) (by rw [LCH.out]; exact hlt)
          have hz2 : ch2[i]? = some z := by rw [q5 i (Nat.le_refl _)]; exact hz
          have m1 := (q1.tg.gch hz2).1
          have NT := negs_take hz
          have NL := negs_le ch1 (i + 1)
          have WT := Wk_two (ws.length - (tr ++ nw).length)
          have Z1 : Hid (ch1[i]? = some z) := hz
          have Z2 : Hid (ch2[i]? = some z) := hz2
          by_cases hneg : z = -1
          · subst hneg
            have hst : st2 + 2 ≤ K := by
              have e1 := V2.out
              have e2 := CN.out
              have e3 := HK1.out
              simp at NT
              omega
            have HST : Hid (st2 + 2 ≤ st1 + (2 * negs (ch1.take (i + 1)) : Nat)) := by
              show st2 + 2 ≤ st1 + (2 * negs (ch1.take (i + 1)) : Nat)
              have e1 := V2.out
              simp at NT
              omega
            clear q1 q2 q3 q4 q5 q6 q7 q8 hz hz2 NT NL WT
            have hs9 : st2 < 9223372036854775800 := by omega
            go_wp2_with fail
            refine Calls.mono (T2.out.open KH.out (c := i) (v := 0) hlt (by omega) hs9) ?_
            rintro e w3 ⟨b0, se3, g3, rfl, f3, p1, p2, p3⟩
            have T3 : Hid _ := p1
            have OP0 : Hid (b0 = true → OpenW G2 (altOf ws i 0)) := p2
            have U3 : Hid (Upd (txFp d g bC bE bT fT) w w3) := U2.out.trans p3 (fun k hk => F2.out k hk)
            have F3 : Hid (∀ k ∈ txFp d g3 bC bE bT fT2, k ∈ txFp d g bC bE bT fT ∨ w.heap.size ≤ k) := fun k hk => F2.out k (by rw [txFp, tanFp, f3] at hk; exact hk)
            clear p1 p2 p3 f3
            go_wp2_with fail
            refine Calls.mono (T3.out.open KH.out (c := i) (v := 1) hlt (by omega) (by omega)) ?_
            rintro e w4 ⟨b1, se4, g4, rfl, f4, p1, p2, p3⟩
            have T4 : Hid _ := p1
            have OP1 : Hid (b1 = true → OpenW G2 (altOf ws i 1)) := p2
            have U4 : Hid (Upd (txFp d g bC bE bT fT) w w4) := U3.out.trans p3 (fun k hk => F3.out k hk)
            have F4 : Hid (∀ k ∈ txFp d g4 bC bE bT fT2, k ∈ txFp d g bC bE bT fT ∨ w.heap.size ≤ k) := fun k hk => F3.out k (by rw [txFp, tanFp, f4] at hk; exact hk)
            clear p1 p2 p3 f4
            cases b0 with
            | true =>
              have O0 := OP0.out rfl
              cases b1 with
              | true =>
                have O1 := OP1.out rfl
                go_wp2_with fail
                refine ⟨⟨i + 1, bb, g4, fT2, G2, ch2, se4, st2 + 1 + 1, mw, by omega, by go_num, rfl, T4.out, N2.out, M2.out, fun hf => ?_, fun c hc => C2.out c (by omega), by have := HST.out; omega, U4.out, F4.out⟩, by simp [intOf] <;> omega⟩
                obtain ⟨h1, h2, h3, h4⟩ := O2.out hf
                refine ⟨h1, h2, h3, fun c hc hcc => ?_⟩
                by_cases e : c = i
                · subst e; subst h2; exact ⟨O0, O1⟩
                · exact h4 c (by omega) hcc
              | false =>
                clear OP1
                go_wp2_with fail
                refine Calls.mono (T4.out.pick KH.out (c := i) (v := 0) hlt (by omega)) ?_
                rintro e w5 ⟨rfl, g5, p1, p2, p3, p4, p5⟩
                have ci : ch2[i]? = some (-1) := Z2.out
                have KM : Hid _ := made_any T4.out KH.out p4 p5 p1 p2 p3 ci (by omega) O0
                clear p1 p2 p3 p4 p5 ci
                go_wp2_with fail
                refine Calls.mono KM.out ?_
                rintro e w6 ⟨rfl, fT6, p1, p2, p3⟩
                have Z6 : Hid (TX d bW cW bC cC bE bT fV ws B J g5 fT6 (pickG G2 (altOf ws i 0)) (ch2.set i ((0 : Nat) : Int)) se4 (st2 + 1 + 1) (tr ++ nw ++ (mw ++ [⟨i, 0, false⟩])) w6) := by
                  rw [← List.append_assoc]; exact p1
                have U6 : Hid (Upd (txFp d g bC bE bT fT) w w6) := U4.out.trans p2 (fun k hk => F4.out k hk)
                have F6 : Hid (∀ k ∈ txFp d g5 bC bE bT fT6, k ∈ txFp d g bC bE bT fT ∨ w.heap.size ≤ k) := fun k hk => by
                  rcases p3 k hk with z | z
                  · exact F4.out k z
                  · exact .inr (by have := U4.out.size; omega)
                clear p1 p2 p3 KM
                go_wp2_with fail
                refine ⟨⟨i + 1, true, g5, fT6, _, _, se4, st2 + 1 + 1, mw ++ [⟨i, 0, false⟩], by omega, by go_num, rfl, Z6.out, ?_, fun _ => by simp, (fun hf => by cases hf), ?_, by have := HST.out; omega, U6.out, F6.out⟩, by simp [intOf] <;> omega⟩
                · intro s hs
                  simp only [List.mem_append, List.mem_singleton] at hs
                  rcases hs with hs | rfl
                  · exact N2.out s hs
                  · rfl
                · intro c hc
                  rw [List.getElem?_set_ne (by omega)]
                  exact C2.out c (by omega)
            | false =>
              cases b1 with
              | true =>
                have O1 := OP1.out rfl
                clear OP0
                go_wp2_with fail
                refine Calls.mono (T4.out.pick KH.out (c := i) (v := 1) hlt (by omega)) ?_
                rintro e w5 ⟨rfl, g5, p1, p2, p3, p4, p5⟩
                have ci : ch2[i]? = some (-1) := Z2.out
                have KM : Hid _ := made_any T4.out KH.out p4 p5 p1 p2 p3 ci (by omega) O1
                clear p1 p2 p3 p4 p5 ci
                go_wp2_with fail
                refine Calls.mono KM.out ?_
                rintro e w6 ⟨rfl, fT6, p1, p2, p3⟩
                have Z6 : Hid (TX d bW cW bC cC bE bT fV ws B J g5 fT6 (pickG G2 (altOf ws i 1)) (ch2.set i ((1 : Nat) : Int)) se4 (st2 + 1 + 1) (tr ++ nw ++ (mw ++ [⟨i, 1, false⟩])) w6) := by
                  rw [← List.append_assoc]; exact p1
                have U6 : Hid (Upd (txFp d g bC bE bT fT) w w6) := U4.out.trans p2 (fun k hk => F4.out k hk)
                have F6 : Hid (∀ k ∈ txFp d g5 bC bE bT fT6, k ∈ txFp d g bC bE bT fT ∨ w.heap.size ≤ k) := fun k hk => by
                  rcases p3 k hk with z | z
                  · exact F4.out k z
                  · exact .inr (by have := U4.out.size; omega)
                clear p1 p2 p3 KM
                go_wp2_with fail
                refine ⟨⟨i + 1, true, g5, fT6, _, _, se4, st2 + 1 + 1, mw ++ [⟨i, 1, false⟩], by omega, by go_num, rfl, Z6.out, ?_, fun _ => by simp, (fun hf => by cases hf), ?_, by have := HST.out; omega, U6.out, F6.out⟩, by simp [intOf] <;> omega⟩
                · intro s hs
                  simp only [List.mem_append, List.mem_singleton] at hs
                  rcases hs with hs | rfl
                  · exact N2.out s hs
                  · rfl
                · intro c hc
                  rw [List.getElem?_set_ne (by omega)]
                  exact C2.out c (by omega)
              | false =>
                go_wp2_with fail
                go_ret
                refine ⟨false, g4, fT2, G2, ch2, se4, st2 + 1 + 1, nw ++ mw, rfl, ?_, ?_, (fun hf => by cases hf), by omega, U4.out, F4.out⟩
                · rw [← List.append_assoc]; exact T4.out
                · intro s hs
                  rcases List.mem_append.mp hs with hs | hs
                  · exact N1.out s hs
                  · exact N2.out s hs
          · have hzw : 0 ≤ z := by
              rcases T2.out.ts.val hlt with ⟨h1, _⟩ | ⟨s, _, _, h1⟩
              · rw [hz2] at h1; injection h1 with h1; exact absurd h1 hneg
              · rw [hz2] at h1; injection h1 with h1; omega
            clear q1 q2 q3 q4 q5 q6 q7 q8 hz hz2 NL WT
            go_wp2_with fail
            refine ⟨⟨i + 1, bb, g2, fT2, G2, ch2, se2, st2, mw, by omega, by go_num, rfl, T2.out, N2.out, M2.out, fun hf => ?_, fun c hc => C2.out c (by omega), ?_, U2.out, F2.out⟩, by simp [intOf] <;> omega⟩
            · obtain ⟨h1, h2, h3, h4⟩ := O2.out hf
              refine ⟨h1, h2, h3, fun c hc hcc => ?_⟩
              by_cases e : c = i
              · subst e; rw [Z1.out] at hcc; injection hcc with hcc; exact absurd hcc hneg
              · exact h4 c (by omega) hcc
            · have := V2.out
              simp [hneg] at NT
              omega
        · have hi2 : i = ws.length := by omega
          have e1 := V2.out
          have e2 := CN.out
          have e3 := HK1.out
          rw [hi2, List.take_of_length_le (by rw [LCH.out]; exact Nat.le_refl _)] at e1
          have ML : Hid ((tr ++ nw ++ mw).length = (tr ++ nw).length + mw.length) := List.length_append
          have SH := q1.ts.short
          rw [ML.out] at SH
          clear q1 q2 q4 q5 q6 q7 q8
          cases bb with
          | true =>
            have m1 := q3 rfl
            have WS := Wk_step (ws.length - (tr ++ nw).length - 1)
            have WL := Wk_le (u := ws.length - ((tr ++ nw).length + mw.length)) (v := ws.length - (tr ++ nw).length - 1) (by omega)
            rw [show ws.length - (tr ++ nw).length - 1 + 1 = ws.length - (tr ++ nw).length by omega] at WS
            have HK3 : Hid (st2 + (Wk (ws.length - ((tr ++ nw).length + mw.length)) : Nat) ≤ K) := by
              show st2 + (Wk (ws.length - ((tr ++ nw).length + mw.length)) : Nat) ≤ K
              omega
            clear q3 e1 e2 e3 WS WL
            go_wp2_with fail
            go_roundg (2 * (ws.length - ((tr ++ nw).length + mw.length)) + 1)
            case measure => simp at *; omega
            case rel =>
              refine ⟨true, g2, fT2, G2, ch2, se2, st2, nw ++ mw, rfl, ?_, ?_, ?_, fun _ => ?_, (fun hf => by cases hf), U2.out, F2.out⟩
              · simp; omega
              · rw [← List.append_assoc]; exact T2.out
              · intro s hs
                rcases List.mem_append.mp hs with hs | hs
                · exact N1.out s hs
                · exact N2.out s hs
              · rw [← List.append_assoc, ML.out]; exact HK3.out
          | false =>
            obtain ⟨h1, h2, h3, h4⟩ := O2.out rfl
            subst h1 h2 h3
            have WP := Wk_two (ws.length - (tr ++ nw).length)
            have Q1 : Hid (st2 ≤ K) := by
              show st2 ≤ K
              omega
            have Q2 : Hid ((tr ++ nw).length < ws.length → st2 + (2 * Wk (ws.length - (tr ++ nw).length - 1) : Nat) ≤ K) := by
              intro hlt2
              have WE : Wk (ws.length - (tr ++ nw).length - 1 + 1) = 2 * (ws.length - (tr ++ nw).length - 1 + 1) + 2 * Wk (ws.length - (tr ++ nw).length - 1) := rfl
              rw [show ws.length - (tr ++ nw).length - 1 + 1 = ws.length - (tr ++ nw).length by omega] at WE
              omega
            have Q3 : Hid (∀ c : Nat, ch2[c]? = some (-1) → OpenW G2 (altOf ws c 0) ∧ OpenW G2 (altOf ws c 1)) := fun c hc => h4 c (by have := (List.getElem?_eq_some_iff.mp hc).1; rw [LCH.out] at this; omega) hc
            clear q3 e1 e2 e3 h4 WP
            go_wp2_with fail
            go_roundg (2 * (ws.length - (tr ++ nw).length))
            case measure => simp
            case rel =>
              refine ⟨false, g2, fT2, G2, ch2, se2, st2, nw, rfl, by simp, by simpa using T2.out, N1.out, fun hf => (by cases hf), fun _ => ⟨Q3.out, Q2.out, Q1.out⟩, U2.out, F2.out⟩
end Go.Proofs.YbulkctquGreatFmt

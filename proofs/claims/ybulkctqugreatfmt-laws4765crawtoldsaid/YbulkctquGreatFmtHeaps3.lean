/-
  container/heap over nodeHeap: Push, Pop.
-/
import Derived.Test.YbulkctquGreatFmtHeaps2
import Derived.Deep.RegionHeld3
import Derived.Deep.DrawnRows
namespace Go.Proofs.YbulkctquGreatFmt
open Go.ChangeShapes Go.WideShapes Go.ChangeAt Go.RowKit Go.Ord
set_option linter.unusedVariables false
attribute [local go_sem ↓] Go.wp_at_zero Go.wp_at_succ

/-- A heap, nil or not. -/
structure HpG (w : World) (h : Nat) (a : Option Addr) (n c : Nat) (f : List Nat) (xs : List Nat) : Prop where
  box : w.cell? ⟨h, 0, none⟩ = some (.slice a n c)
  fre : w.frozen? ⟨h, 0, none⟩ = false
  row : Sl w 3 1 a n c f (xs.map nI)
  ne : h ∉ f
theorem HpAt.gen {w : World} {h b n c : Nat} {xs : List Nat} (H : HpAt w h b n c xs) : HpG w h (some ⟨b, 0, none⟩) n c [b] xs := ⟨H.box, H.fre, H.row, by simpa using H.ne⟩
theorem HpG.len {w : World} {h n c : Nat} {a : Option Addr} {f xs : List Nat} (H : HpG w h a n c f xs) : n = xs.length := by have := H.row.len; simpa using this.symm
theorem HpG.keep {w w' : World} {h n c : Nat} {a : Option Addr} {f xs : List Nat} (H : HpG w h a n c f xs) {S : List Nat} (hu : Upd S w w') (h1 : h ∉ S) (h2 : ∀ k ∈ f, k ∉ S) : HpG w' h a n c f xs :=
  ⟨hu.cell H.box h1, hu.free (World.block_lt_of_cell? _ _ H.box) H.fre h1, H.row.keep hu h2, H.ne⟩
theorem HpG.lt {w : World} {h n c : Nat} {a : Option Addr} {f xs : List Nat} (H : HpG w h a n c f xs) : h < w.heap.size := World.block_lt_of_cell? _ _ H.box

theorem asInt (v : Value) (w : World) : (Instr.typeAssert (.iface 3 v) 20 3 false).run Ybaz.prog w = .ok v w := by
  have h3 : Ybaz.prog.underlying 3 = some (.int .i64) := by kernel_rfl
  simp [Instr.typeAssert, run_underlying h3]

set_option maxHeartbeats 4000000 in
set_option maxRecDepth 100000 in
theorem push161 (w : World) (h : Nat) (a : Option Addr) (n c : Nat) (f xs : List Nat) (H : HpG w h a n c f xs) (v : Nat) (hn : n < 1000000) :
    Calls Ybaz.prog 161 #[.pointer (some ⟨h, 0, none⟩), .iface 3 (.int .i64 v)] w fun e w' => e = .returned (.tuple #[]) ∧ ∃ b c', HpAt w' h b (n + 1) c' (xs ++ [v]) ∧ Upd (h :: f) w w' ∧ (b ∈ f ∨ w.heap.size ≤ b) := by
  have hb := H.box
  have hz := H.fre
  have hlt := H.lt
  have HR : Hid _ := H.row
  have HN : Hid (h ∉ f) := H.ne
  clear H
  have hTA := asInt (.int .i64 v)
  go_enter Ybaz.func161, Ybaz.ntmps161
  go_wp2_with fail
  go_region_law (refine step_append_one w _ (Upd.drewN [] _ _) (by rfl) (.tmp 7) (.tmp 10) 187 (by rfl) 3 8 info3' (by decide) a n c f (xs.map nI) (by rfl) HR.out (by simp) (nI v) rfl _ _ (by rfl) (by simp) (by omega) ?_; intro gR cR' w1 hS1 hU1 hF1; have q1 := hU1.cell hb (by simpa using HN.out); have q3 := hU1.free hlt hz (by simpa using HN.out); have H1 : Hid _ := hS1; have U1 : Hid _ := hU1; have F1 : Hid _ := hF1; clear hS1 hU1 hF1)
  all_goals go_wp2_with fail
  all_goals go_end0
  all_goals (
    have gh : gR ≠ h := by
      rintro rfl
      rcases F1.out with e | e
      · exact HN.out e
      · omega
    refine ⟨rfl, gR, cR', ⟨?_, set_free q3, ?_, Ne.symm gh⟩, ?_, F1.out⟩
    · exact set_same q1
    · have := H1.out.keep (Upd.store w1 h 0 (.slice (some ⟨gR, 0, none⟩) (n + 1) cR')) (by simpa using gh)
      simpa [nI] using this
    · exact (U1.out.mono (T := h :: f) (fun k hk => .inl (by simp at hk; simp [hk]))).trans (Upd.store _ _ _ _) (fun k hk => .inl (by simp at hk; simp [hk])))

theorem pop160 (w : World) (h b n c : Nat) (xs : List Nat) (H : HpAt w h b (n + 1) c xs) (hn : n < 1000000) :
    Calls Ybaz.prog 160 #[.pointer (some ⟨h, 0, none⟩)] w fun e w' => e = .returned (.iface 3 (.int .i64 (hg xs n))) ∧ HpAt w' h b n c (xs.take n) ∧ Upd [h] w w' := by
  have hb := H.box
  have hz := H.fre
  have c1 := H.cel (show n < n + 1 by omega)
  have hlt : h < w.heap.size := World.block_lt_of_cell? _ _ hb
  have hle := H.row.le
  have hle1 : n + 1 ≤ c := hle.1
  have hle2 : c ≤ 9223372036854775807 := hle.2
  have HH : Hid _ := H
  clear H hle
  go_enter Ybaz.func160, Ybaz.ntmps160
  go_wp2_with fail
  go_ret
  have hne := HH.out.ne
  have U := Upd.store w h 0 (.slice (some ⟨b, 0, none⟩) n c)
  refine ⟨rfl, ⟨set_same hb, set_free hz, ?_, hne⟩, U⟩
  have r := HH.out.row.keep U (by simpa using Ne.symm hne)
  have hl := HH.out.len
  refine ⟨by simp; omega, ?_⟩
  rcases r.lies with ⟨e, _⟩ | ⟨g, cur, e1, e2, e3, e4, e5, e6, e7⟩
  · cases e
  · refine .inr ⟨g, cur, e1, e2, e3, by omega, e5, e6, ?_⟩
    rw [List.map_take, ← e7, List.take_take]
    congr 1
    omega

theorem hg_append (xs : List Nat) (v t : Nat) (ht : t < xs.length) : hg (xs ++ [v]) t = hg xs t := by
  simp [hg, List.getElem?_append_left ht]
theorem hg_take (xs : List Nat) (n t : Nat) (ht : t < n) : hg (xs.take n) t = hg xs t := by
  simp [hg, ht]

set_option maxRecDepth 100000 in
theorem push73 (w : World) (h : Nat) (a : Option Addr) (n c : Nat) (f xs : List Nat) (H : HpG w h a n c f xs) (hp : Hp xs n) (v : Nat) (hn : n < 900000) :
    Calls Ybaz.prog 73 #[.iface 189 (.pointer (some ⟨h, 0, none⟩)), .iface 3 (.int .i64 v)] w fun e w' => e = .returned (.tuple #[]) ∧ ∃ b c' ys, HpAt w' h b (n + 1) c' ys ∧ ys.Perm (v :: xs) ∧ Hp ys (n + 1) ∧ Upd (h :: f) w w' ∧ (b ∈ f ∨ w.heap.size ≤ b) := by
  have HH : Hid _ := H
  have PP : Hid (Hp xs n) := hp
  clear H hp
  go_enter Ybaz.func73, Ybaz.ntmps73
  go_wp2_with fail
  refine (push161 w h a n c f xs HH.out v (by omega)).mono ?_
  rintro e w1 ⟨rfl, b, c', h1, h2, h3⟩
  have H1 : Hid _ := h1
  have U1 : Hid _ := h2
  have F1 : Hid _ := h3
  have hM := methLen h w1 _ h1.box
  clear h1 h2 h3
  go_wp2_with fail
  clear hM
  refine (len74 w1 _ (n + 1) c').mono ?_
  rintro e w2 ⟨rfl, rfl⟩
  have hcast : ((n + 1 : Nat) : Int) - 1 = (n : Int) := by omega
  rw [show ((n + 1 : Nat) : Int) = (n : Int) + 1 by omega]
  go_wp2_with fail
  have hup : UpOk (xs ++ [v]) n := by
    have hl := HH.out.len
    refine ⟨fun i h1 h2 h3 => ?_, fun c h1 h2 h3 h4 => ?_⟩
    · simp at h2
      rw [hg_append _ _ _ (by omega), hg_append _ _ _ (by omega)]
      exact PP.out i h1 (by omega)
    · simp at h2; omega
  refine (up98 w2 h b (n + 1) c' n (xs ++ [v]) H1.out (by omega) (by omega) hup).mono ?_
  rintro e w3 ⟨rfl, ys, q1, q2, q3, q4⟩
  have Q1 : Hid (ys.Perm (v :: xs)) := q1.trans (List.perm_append_singleton v xs)
  have Q2 : Hid (Hp ys (n + 1)) := q2
  have Q3 : Hid _ := q3
  have Q4 : Hid (Upd (h :: f) w w3) := U1.out.trans q4 (fun k hk => by
    simp at hk; subst hk
    rcases F1.out with e | e
    · exact .inl (by simp [e])
    · exact .inr e)
  clear q1 q2 q3 q4
  go_wp2_with fail
  go_end0
  exact ⟨rfl, b, c', ys, Q3.out, Q1.out, Q2.out, Q4.out, F1.out⟩

set_option maxRecDepth 100000 in
theorem pop75 (w : World) (h b n c : Nat) (xs : List Nat) (H : HpAt w h b (n + 1) c xs) (hp : Hp xs (n + 1)) (hn : n < 900000) :
    Calls Ybaz.prog 75 #[.iface 189 (.pointer (some ⟨h, 0, none⟩))] w fun e w' => e = .returned (.iface 3 (.int .i64 (hg xs 0))) ∧ ∃ ys, HpAt w' h b n c ys ∧ (hg xs 0 :: ys).Perm xs ∧ Hp ys n ∧ Upd [h, b] w w' := by
  have HH : Hid _ := H
  have PP : Hid (Hp xs (n + 1)) := hp
  have hM := methLen h w _ H.box
  clear H hp
  go_enter Ybaz.func75, Ybaz.ntmps75
  go_wp2_with fail
  clear hM
  refine (len74 w _ (n + 1) c).mono ?_
  rintro e w2 ⟨rfl, rfl⟩
  have hcast : ((n + 1 : Nat) : Int) - 1 = (n : Int) := by omega
  rw [show ((n + 1 : Nat) : Int) = (n : Int) + 1 by omega]
  have hM := methSwap h w2 _ HH.out.box
  go_wp2_with fail
  clear hM
  refine Calls.mono (swap159 w2 h b (n + 1) c 0 n xs HH.out (by omega) (by omega) (by omega)) ?_
  rintro e w3 ⟨rfl, h1, h2⟩
  have H1 : Hid _ := h1
  have U1 : Hid _ := h2
  clear h1 h2
  go_wp2_with fail
  have hl := HH.out.len
  have hdn : DnOk (swl xs 0 n) n 0 := by
    refine ⟨fun k h1 h2 h3 => ?_, fun c h1 h2 h3 h4 => by omega⟩
    rw [hg_swl xs (by omega) (by omega), hg_swl xs (by omega) (by omega), if_neg (by omega), if_neg (by omega), if_neg (by omega), if_neg (by omega)]
    exact PP.out k h1 (by omega)
  refine Calls.mono (down99 w3 h b (n + 1) c 0 n (swl xs 0 n) H1.out (by omega) (by omega) (by omega) hdn) ?_
  rintro e w4 ⟨⟨q, rfl⟩, ys, q1, q2, q3, q4, q5⟩
  have Q1 : Hid (ys.Perm xs) := q1.trans (swl_perm xs (by omega) (by omega))
  have Q2 : Hid (Hp ys n) := q2
  have Q3 : Hid _ := q3
  have Q4 : Hid (Upd [b] w2 w4) := U1.out.trans q4 (fun k hk => .inl hk)
  have q6 : hg ys n = hg xs 0 := by rw [q5 n (by omega), hg_swl xs (by omega) (by omega), if_pos rfl]
  have Q5 : Hid (hg ys n = hg xs 0) := q6
  clear q1 q2 q3 q4 q5 q6
  go_wp2_with fail
  refine (pop160 w4 h b n c ys Q3.out (by omega)).mono ?_
  rintro e w5 ⟨rfl, h1, h2⟩
  rw [Q5.out]
  have H5 : Hid _ := h1
  have U5 : Hid (Upd [h, b] w2 w5) := (Q4.out.mono (T := [h, b]) (fun k hk => .inl (by simp at hk; simp [hk]))).trans h2 (fun k hk => .inl (by simp at hk; simp [hk]))
  clear h1 h2
  go_wp2_with fail
  go_ret
  refine ⟨rfl, ys.take n, H5.out, ?_, ?_, U5.out⟩
  · have hly := Q3.out.len
    have e1 : ys = ys.take n ++ [hg ys n] := by
      have := List.take_append_drop n ys
      rw [List.drop_eq_getElem_cons (show n < ys.length by omega), List.drop_eq_nil_of_le (by omega)] at this
      rw [hg, List.getD_eq_getElem?_getD, List.getElem?_eq_getElem (by omega)]
      exact this.symm
    have e2 := Q1.out
    rw [e1, Q5.out] at e2
    exact (List.perm_append_singleton _ _).symm.trans e2
  · intro i h1 h2
    rw [hg_take _ _ _ (by omega), hg_take _ _ _ h2]
    exact Q2.out i h1 h2
end Go.Proofs.YbulkctquGreatFmt

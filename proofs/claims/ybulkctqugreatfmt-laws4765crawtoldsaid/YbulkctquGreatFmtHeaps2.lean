/-
  container/heap over nodeHeap, walked.
-/
import Derived.Test.YbulkctquGreatFmtHeaps
import Derived.CellFam
import Derived.Deep.Draws
namespace Go.Proofs.YbulkctquGreatFmt
open Go.ChangeShapes Go.WideShapes Go.ChangeAt Go.RowKit Go.Ord
set_option linter.unusedVariables false
attribute [local go_sem ↓] Go.wp_at_zero Go.wp_at_succ

theorem info3' : SliceOf Ybaz.prog 187 3 1 8 := by
  obtain ⟨i, h1, h2, h3, h4⟩ := info_parts info3
  exact ⟨by kernel_rfl, i, _, h1, h2, h3, h4, rfl, by decide⟩

/-- A heap of n numbers, n > 0: its box h, its row b. -/
structure HpAt (w : World) (h b n c : Nat) (xs : List Nat) : Prop where
  box : w.cell? ⟨h, 0, none⟩ = some (.slice (some ⟨b, 0, none⟩) n c)
  fre : w.frozen? ⟨h, 0, none⟩ = false
  row : Sl w 3 1 (some ⟨b, 0, none⟩) n c [b] (xs.map nI)
  ne : h ≠ b
section
variable {w w' : World} {h b n c : Nat} {xs : List Nat}
theorem HpAt.len (H : HpAt w h b n c xs) : n = xs.length := by have := H.row.len; simpa using this.symm
theorem HpAt.cel (H : HpAt w h b n c xs) {t : Nat} (ht : t < n) : w.cell? ⟨b, t, none⟩ = some (.int .i64 (hg xs t)) := by
  obtain ⟨g, e, _, _, h1, _⟩ := H.row.has (by omega)
  injection e with e
  injection e with e
  subst e
  have hl := H.len
  rw [h1 t (by omega)]
  simp [hg, nI, List.getElem?_eq_getElem (show t < xs.length by omega)]
theorem HpAt.free (H : HpAt w h b n c xs) (hn : 0 < n) (t : Nat) : w.frozen? ⟨b, t, none⟩ = false := by
  obtain ⟨g, e, _, _, _, h1⟩ := H.row.has hn
  injection e with e
  injection e with e
  subst e
  exact h1 t
theorem HpAt.keep (H : HpAt w h b n c xs) {S : List Nat} (hu : Upd S w w') (h1 : h ∉ S) (h2 : b ∉ S) : HpAt w' h b n c xs :=
  ⟨hu.cell H.box h1, hu.free (World.block_lt_of_cell? _ _ H.box) H.fre h1, H.row.keep hu (by simpa using h2), H.ne⟩
theorem HpAt.swap (H : HpAt w h b n c xs) (i j q : Nat) : HpAt (((w.drewN q).setCell ⟨b, i, none⟩ (.int .i64 (hg xs j))).setCell ⟨b, j, none⟩ (.int .i64 (hg xs i))) h b n c (swl xs i j) := by
  have H1 := H.keep (Upd.drewN [] w q) (by simp) (by simp)
  have e1 := (H1.row.store i (.int .i64 (hg xs j))).store j (.int .i64 (hg xs i))
  have hne := H.ne
  refine ⟨?_, set_free (set_free H1.fre), ?_, hne⟩
  · exact set_other (set_other H1.box (.inl (Ne.symm hne))) (.inl (Ne.symm hne))
  · have : (swl xs i j).map nI = ((xs.map nI).set i (.int .i64 (hg xs j))).set j (.int .i64 (hg xs i)) := by
      simp [swl, nI, List.map_set]
    rw [this]; exact e1
end
theorem Upd.swap (w : World) (b i j q : Nat) (u v : Value) : Upd [b] w (((w.drewN q).setCell ⟨b, i, none⟩ u).setCell ⟨b, j, none⟩ v) :=
  ((Upd.drewN [b] w q).trans (Upd.store _ _ _ _) (fun k hk => .inl hk)).trans (Upd.store _ _ _ _) (fun k hk => .inl hk)

theorem less158 (w : World) (b n c i j : Nat) (x y : Int) (hi : i < n) (hj : j < n) (hn : n < 1000000000) (hx : w.cell? ⟨b, i, none⟩ = some (.int .i64 x)) (hy : w.cell? ⟨b, j, none⟩ = some (.int .i64 y)) :
    Calls Ybaz.prog 158 #[.slice (some ⟨b, 0, none⟩) n c, .int .i64 i, .int .i64 j] w fun e w' => e = .returned (.bool (decide (x < y))) ∧ ∃ q, w' = w.drewN q := by
  go_enter Ybaz.func158, Ybaz.ntmps158
  go_wp2_with fail
  go_big_quiet (fail)
  go_wp2_with fail
  go_ret
  exact ⟨rfl, _, rfl⟩
theorem swap159 (w : World) (h b n c i j : Nat) (xs : List Nat) (H : HpAt w h b n c xs) (hi : i < n) (hj : j < n) (hn : n < 1000000000) :
    Calls Ybaz.prog 159 #[.slice (some ⟨b, 0, none⟩) n c, .int .i64 i, .int .i64 j] w fun e w' => e = .returned (.tuple #[]) ∧ HpAt w' h b n c (swl xs i j) ∧ Upd [b] w w' := by
  have c1 := H.cel hi
  have c2 := H.cel hj
  have z1 := H.free (by omega) i
  have z2 := H.free (by omega) j
  have c3 : (w.setCell ⟨b, i, none⟩ (.int .i64 (hg xs j))).cell? ⟨b, j, none⟩ = some (.int .i64 (hg xs j)) := by
    by_cases e : i = j
    · subst e; exact set_same c1
    · exact set_other c2 (.inr e)
  have HH : Hid _ := H
  clear H
  go_enter Ybaz.func159, Ybaz.ntmps159
  go_wp2_with fail
  go_big_region
  all_goals go_wp2_with fail
  all_goals go_end0
  all_goals exact ⟨rfl, HH.out.swap i j 1, Upd.swap _ _ _ _ 1 _ _⟩
theorem lessH (w : World) (h b n c i j : Nat) (xs : List Nat) (H : HpAt w h b n c xs) (hi : i < n) (hj : j < n) (hn : n < 1000000000) :
    Calls Ybaz.prog 158 #[.slice (some ⟨b, 0, none⟩) n c, .int .i64 i, .int .i64 j] w fun e w' => e = .returned (.bool (decide (hg xs i < hg xs j))) ∧ HpAt w' h b n c xs ∧ Upd [] w w' := by
  refine (less158 w b n c i j _ _ hi hj hn (H.cel hi) (H.cel hj)).mono ?_
  rintro e w' ⟨rfl, q, rfl⟩
  exact ⟨by simp, H.keep (Upd.drewN [] w q) (by simp) (by simp), Upd.drewN _ _ _⟩
theorem len74 (w : World) (a : Option Addr) (n c : Nat) : Calls Ybaz.prog 74 #[.slice a n c] w fun e w' => e = .returned (.int .i64 n) ∧ w' = w := by
  go_enter Ybaz.func74, Ybaz.ntmps74
  go_wp2_with fail
  go_ret
  exact ⟨rfl, rfl⟩

set_option maxHeartbeats 4000000 in
set_option maxRecDepth 100000 in
theorem up98 (w : World) (h b n c j : Nat) (xs : List Nat) (H : HpAt w h b n c xs) (hj : j < n) (hn : n < 1000000) (hu : UpOk xs j) :
    Calls Ybaz.prog 98 #[.iface 189 (.pointer (some ⟨h, 0, none⟩)), .int .i64 j] w fun e w' => e = .returned (.tuple #[]) ∧ ∃ ys, ys.Perm xs ∧ Hp ys n ∧ HpAt w' h b n c ys ∧ Upd [b] w w' := by
  have HH : Hid _ := H
  have HU : Hid _ := hu
  clear H hu
  go_enter Ybaz.func98, Ybaz.ntmps98
  go_wp2_with fail
  go_loopw [1] (fun t1 wr => ∃ (k : Nat) (ys : List Nat), t1 = .int .i64 k ∧ k < n ∧ ys.Perm xs ∧ UpOk ys k ∧ HpAt wr h b n c ys ∧ Upd [b] w wr) (fun u _ => (intOf u).toNat)
  case atStart => exact ⟨j, xs, rfl, hj, List.Perm.refl _, HU.out, HH.out, Upd.refl _ _⟩
  case round =>
    obtain ⟨k, ys, rfl, h1, h2, h3, h4, h5⟩ := hrel
    have P1 : Hid _ := h2
    have U1 : Hid (UpOk ys k) := h3
    have H1 : Hid _ := h4
    have D1 : Hid _ := h5
    have hk6 : k < 1000000 := by omega
    have hl : Hid _ := h4.len
    rcases Nat.eq_zero_or_pos k with rfl | h0
    · clear h2 h3 h4 h5
      rw [show ((0 : Nat) : Int) = 0 from rfl]
      go_wp2_with fail
      go_end0
      exact ⟨rfl, ys, P1.out, by rw [hl.out]; exact up_done U1.out (.inl rfl), H1.out, D1.out⟩
    · obtain ⟨p, hp⟩ : ∃ p : Nat, p = (k - 1) / 2 := ⟨_, rfl⟩
      have hp1 : p < n := by omega
      have hp0 : p < k := by omega
      have hM := methLess h wr _ h4.box
      clear h2 h3 h4 h5
      have hpk : ((p : Int) == (k : Int)) = false := by simp; omega
      have hkp : ((k : Int) - 1) / 2 = (p : Int) := by omega
      have HP : Hid (p = (k - 1) / 2) := hp
      clear hp
      have hp6 : p < 1000000 := by omega
      go_wp2_with fail
      rw [hkp]
      clear hkp hM
      refine (lessH wr h b n c k p ys H1.out h1 hp1 (by omega)).mono ?_
      rintro e w1 ⟨rfl, h6, h6'⟩
      have H2 : Hid _ := h6
      have hM2 := methSwap h w1 _ h6.box
      have D2 : Hid (Upd [b] w w1) := D1.out.trans h6' (by simp)
      clear h6 h6'
      by_cases hle : hg ys k < hg ys p
      · go_wp2_with fail
        clear hM2
        refine (swap159 _ h b n c p k ys H2.out hp1 h1 (by omega)).mono ?_
        rintro e w2 ⟨rfl, h7, h8⟩
        have H3 : Hid _ := h7
        have D3 : Hid (Upd [b] w w2) := D2.out.trans h8 (fun k hk => .inl hk)
        clear h7 h8
        go_wp2_with fail
        have u2 := up_step U1.out (by omega) (by rw [← hl.out]; exact h1) (by rw [← HP.out]; omega)
        rw [← HP.out] at u2
        exact ⟨⟨p, swl ys p k, rfl, hp1, (swl_perm ys (by rw [← hl.out]; exact hp1) (by rw [← hl.out]; exact h1)).trans P1.out, u2, H3.out, D3.out⟩, by simp [intOf] <;> omega⟩
      · go_wp2_with fail
        go_end0
        exact ⟨rfl, ys, P1.out, by rw [hl.out]; exact up_done U1.out (.inr (by rw [← HP.out]; omega)), H2.out, D2.out⟩

set_option maxHeartbeats 4000000 in
set_option maxRecDepth 100000 in
theorem down99 (w : World) (h b N c i n : Nat) (xs : List Nat) (H : HpAt w h b N c xs) (hi : i < 1000000) (hn : n ≤ N) (hN : N < 1000000) (hu : DnOk xs n i) :
    Calls Ybaz.prog 99 #[.iface 189 (.pointer (some ⟨h, 0, none⟩)), .int .i64 i, .int .i64 n] w fun e w' => (∃ q : Bool, e = .returned (.bool q)) ∧ ∃ ys, ys.Perm xs ∧ Hp ys n ∧ HpAt w' h b N c ys ∧ Upd [b] w w' ∧ ∀ t, n ≤ t → hg ys t = hg xs t := by
  have HH : Hid _ := H
  have HU : Hid (DnOk xs n i) := hu
  clear H hu
  go_enter Ybaz.func99, Ybaz.ntmps99
  go_wp2_with fail
  go_loopw [7] (fun t7 wr => ∃ (k : Nat) (ys : List Nat), t7 = .int .i64 k ∧ k < 1000000 ∧ ys.Perm xs ∧ DnOk ys n k ∧ HpAt wr h b N c ys ∧ Upd [b] w wr ∧ ∀ t, n ≤ t → hg ys t = hg xs t) (fun u _ => n - (intOf u).toNat)
  case atStart => exact ⟨i, xs, rfl, hi, List.Perm.refl _, HU.out, HH.out, Upd.refl _ _, fun _ _ => rfl⟩
  case round =>
    obtain ⟨k, ys, rfl, h1, h2, h3, h4, h5, h5'⟩ := hrel
    have P1 : Hid _ := h2
    have U1 : Hid (DnOk ys n k) := h3
    have H1 : Hid _ := h4
    have D1 : Hid _ := h5
    have T1 : Hid (∀ t, n ≤ t → hg ys t = hg xs t) := h5'
    have hl : Hid _ := h4.len
    clear h2 h3 h5 h5'
    by_cases hlt : 2 * k + 1 < n
    · have c1 := h4.cel (show k < N by omega)
      have c2 := h4.cel (show 2 * k + 1 < N by omega)
      have hM := methLess h wr _ h4.box
      have hgd : decide ((n : Int) ≤ 2 * (k : Int) + 1) = false := by simp; omega
      obtain ⟨l, hle⟩ : ∃ l : Nat, l = 2 * k + 1 := ⟨_, rfl⟩
      have hle2 : 2 * (k : Int) + 1 = (l : Int) := by omega
      rw [← hle] at c2
      have hl1 : l < n := by omega
      have hl6 : l < 1000000 := by omega
      have HL : Hid (l = 2 * k + 1) := hle
      have hkl : k < l := by omega
      clear hle hlt
      by_cases hr : l + 1 < n
      · have c3 := h4.cel (show l + 1 < N by omega)
        have hgr : decide ((l : Int) + 1 < (n : Int)) = true := by simp; omega
        clear h4
        go_wp2_with fail
        clear hM
        obtain ⟨j, hj⟩ : ∃ j : Nat, j = l + 1 := ⟨_, rfl⟩
        rw [show (l : Int) + 1 = (j : Int) by omega]
        have hj1 : j < n := by omega
        have hj6 : j < 1000000 := by omega
        have HJ : Hid (j = l + 1) := hj
        clear hgr hr c3 hj
        refine (lessH wr h b N c j l ys H1.out (by omega) (by omega) (by omega)).mono ?_
        rintro e w1 ⟨rfl, h6, h6'⟩
        have H2 : Hid _ := h6
        have hM2 := methLess h w1 _ h6.box
        have D2 : Hid (Upd [b] w w1) := D1.out.trans h6' (by simp)
        clear h6 h6'
        by_cases hlt2 : hg ys j < hg ys l
        · have MN : Hid (∀ t, 0 < t → t < n → (t - 1) / 2 = k → hg ys j ≤ hg ys t) := by
            intro t a1 a2 a3
            have hL := HL.out
            have hJ := HJ.out
            have : t = l ∨ t = j := by omega
            rcases this with rfl | rfl
            · omega
            · exact Nat.le_refl _
          go_wp2_with fail
          clear hM2
          refine (lessH w1 h b N c j k ys H2.out (by omega) (by omega) (by omega)).mono ?_
          rintro e w2 ⟨rfl, h7, h7'⟩
          have H3 : Hid _ := h7
          have hM3 := methSwap h w2 _ h7.box
          have D3 : Hid (Upd [b] w w2) := D2.out.trans h7' (by simp)
          clear h7 h7'
          by_cases hlt3 : hg ys j < hg ys k
          · go_wp2_with fail
            clear hM3
            refine (swap159 _ h b N c k j ys H3.out (by omega) (by omega) (by omega)).mono ?_
            rintro e w3 ⟨rfl, h8, h9⟩
            have H4 : Hid _ := h8
            have D4 : Hid (Upd [b] w w3) := D3.out.trans h9 (fun k hk => .inl hk)
            clear h8 h9
            go_wp2_with fail
            have kN : k < ys.length := by rw [← hl.out]; omega
            have jN : j < ys.length := by rw [← hl.out]; omega
            have hL := HL.out
            have hJ := HJ.out
            have u2 := dn_step (n := n) (by rw [← hl.out]; exact hn) U1.out (c := j) (by omega) (by omega) hlt3 MN.out
            refine ⟨⟨j, swl ys k j, rfl, by omega, (swl_perm ys kN jN).trans P1.out, u2, H4.out, D4.out, ?_⟩, by simp [intOf] <;> omega⟩
            intro t ht
            rw [hg_swl ys kN jN, if_neg (by omega), if_neg (by omega)]
            exact T1.out t ht
          · go_wp2_with fail
            go_ret
            refine ⟨⟨_, rfl⟩, ys, P1.out, dn_done U1.out (fun t a1 a2 a3 => ?_), H3.out, D3.out, T1.out⟩
            have q := MN.out t a1 a2 a3
            omega
        · have MN : Hid (∀ t, 0 < t → t < n → (t - 1) / 2 = k → hg ys l ≤ hg ys t) := by
            intro t a1 a2 a3
            have hL := HL.out
            have hJ := HJ.out
            have : t = l ∨ t = j := by omega
            rcases this with rfl | rfl
            · exact Nat.le_refl _
            · omega
          go_wp2_with fail
          clear hM2
          refine (lessH w1 h b N c l k ys H2.out (by omega) (by omega) (by omega)).mono ?_
          rintro e w2 ⟨rfl, h7, h7'⟩
          have H3 : Hid _ := h7
          have hM3 := methSwap h w2 _ h7.box
          have D3 : Hid (Upd [b] w w2) := D2.out.trans h7' (by simp)
          clear h7 h7'
          by_cases hlt3 : hg ys l < hg ys k
          · go_wp2_with fail
            clear hM3
            refine (swap159 _ h b N c k l ys H3.out (by omega) (by omega) (by omega)).mono ?_
            rintro e w3 ⟨rfl, h8, h9⟩
            have H4 : Hid _ := h8
            have D4 : Hid (Upd [b] w w3) := D3.out.trans h9 (fun k hk => .inl hk)
            clear h8 h9
            go_wp2_with fail
            have kN : k < ys.length := by rw [← hl.out]; omega
            have jN : l < ys.length := by rw [← hl.out]; omega
            have hL := HL.out
            have u2 := dn_step (n := n) (by rw [← hl.out]; exact hn) U1.out (c := l) (by omega) (by omega) hlt3 MN.out
            refine ⟨⟨l, swl ys k l, rfl, by omega, (swl_perm ys kN jN).trans P1.out, u2, H4.out, D4.out, ?_⟩, by simp [intOf] <;> omega⟩
            intro t ht
            rw [hg_swl ys kN jN, if_neg (by omega), if_neg (by omega)]
            exact T1.out t ht
          · go_wp2_with fail
            go_ret
            refine ⟨⟨_, rfl⟩, ys, P1.out, dn_done U1.out (fun t a1 a2 a3 => ?_), H3.out, D3.out, T1.out⟩
            have q := MN.out t a1 a2 a3
            omega
      · have hgr : decide ((l : Int) + 1 < (n : Int)) = false := by simp; omega
        clear h4
        have MN : Hid (∀ t, 0 < t → t < n → (t - 1) / 2 = k → hg ys l ≤ hg ys t) := by
          intro t a1 a2 a3
          have hL := HL.out
          have : t = l := by omega
          rw [this]; exact Nat.le_refl _
        go_wp2_with fail
        clear hM
        refine (lessH wr h b N c l k ys H1.out (by omega) (by omega) (by omega)).mono ?_
        rintro e w2 ⟨rfl, h7, h7'⟩
        have H3 : Hid _ := h7
        have hM3 := methSwap h w2 _ h7.box
        have D3 : Hid (Upd [b] w w2) := D1.out.trans h7' (by simp)
        clear h7 h7'
        by_cases hlt3 : hg ys l < hg ys k
        · go_wp2_with fail
          clear hM3
          refine (swap159 _ h b N c k l ys H3.out (by omega) (by omega) (by omega)).mono ?_
          rintro e w3 ⟨rfl, h8, h9⟩
          have H4 : Hid _ := h8
          have D4 : Hid (Upd [b] w w3) := D3.out.trans h9 (fun k hk => .inl hk)
          clear h8 h9
          go_wp2_with fail
          have kN : k < ys.length := by rw [← hl.out]; omega
          have jN : l < ys.length := by rw [← hl.out]; omega
          have hL := HL.out
          have u2 := dn_step (n := n) (by rw [← hl.out]; exact hn) U1.out (c := l) (by omega) (by omega) hlt3 MN.out
          refine ⟨⟨l, swl ys k l, rfl, by omega, (swl_perm ys kN jN).trans P1.out, u2, H4.out, D4.out, ?_⟩, by simp [intOf] <;> omega⟩
          intro t ht
          rw [hg_swl ys kN jN, if_neg (by omega), if_neg (by omega)]
          exact T1.out t ht
        · go_wp2_with fail
          go_ret
          refine ⟨⟨_, rfl⟩, ys, P1.out, dn_done U1.out (fun t a1 a2 a3 => ?_), H3.out, D3.out, T1.out⟩
          have q := MN.out t a1 a2 a3
          omega
    · have hgd : decide ((n : Int) ≤ 2 * (k : Int) + 1) = true := by simp; omega
      clear h4
      go_wp2_with fail
      go_ret
      exact ⟨⟨_, rfl⟩, ys, P1.out, dn_done U1.out (fun t a1 a2 a3 => by omega), H1.out, D1.out, T1.out⟩
end Go.Proofs.YbulkctquGreatFmt

/-
  takeUpChoice.
-/
import Derived.Test.YbulkctquGreatFmtChA
import Derived.Test.YbulkctquGreatFmtApp
import Derived.Test.YbulkctquGreatFmtNspP
namespace Go.Proofs.YbulkctquGreatFmt
open Go.ChangeShapes Go.WideShapes Go.ChangeAt Go.RowKit Go.Ord
set_option linter.unusedVariables false
attribute [local go_sem ↓] Go.wp_at_zero Go.wp_at_succ
attribute [-go_sem] Go.Builtin.append_
attribute [-go_sem] Go.Instr.buildSlice

theorem info164 : (Ybaz.prog.info? 164).map (fun i => (i.zero, i.size, i.bytes)) = some (some (.agg #[.slice none 0 0, .int .i64 0, .slice none 0 0, .int .i64 0, .int .i64 0]), 5, 72) := by kernel_rfl
theorem slChos : SliceOf Ybaz.prog 91 164 5 72 := (MakeOf.mk Ybaz.underlying91 info164).slice rfl (by decide)
theorem bs91 (a b c d e : Value) (w : World) : (Instr.buildSlice 91 1 #[(0, .agg #[a, b, c, d, e])]).run Ybaz.prog w = .ok (.slice (some ⟨w.heap.size, 0, none⟩) 1 1) (w.alloc (.cells #[a, b, c, d, e] 164)) :=
  run_buildSlice_one Ybaz.underlying91 info164 (by decide) (by decide) _ _ (by kernel_rfl) w
def mkCho (s : Sr) (u r : Nat) : Cho := ⟨⟨[u], s.wr⟩, ⟨s.rd.filter (fun t => t != u), u⟩, if r < s.rk then 0 else 1⟩
set_option maxHeartbeats 4000000 in
set_option maxRecDepth 100000 in
theorem takeUp81 {d bN bF m : Nat} {g : GG} {G : List (List Nat)} {J : List Bool} {sg : SG} {ss : List Sr} {og : OG} {os : List Ob} {v : SV} {fT fR : List Nat} {cs : List Cho} {vs : List (SV × SV)} {w : World} (H : PX d bN bF m g G J sg ss og os v fT fR cs vs w)
    (k u r : Nat) (s : Sr) (hs : ss[k]? = some s) (hsl : ss.length < 1000) (hrl : s.rd.length < 1000) (hcl : cs.length < 1000) :
    Calls Ybaz.prog 81 #[.pointer (some ⟨d, 0, none⟩), .int .i64 k, .int .i64 u, .int .i64 r] w fun e w' => e = .returned (.tuple #[]) ∧ ∃ (g' : GG) (v' : SV) (fT' fR' : List Nat) (vs' : List (SV × SV)), g'.foot = g.foot ∧ PX d bN bF m g' G J sg ss og os v' fT' fR' (cs ++ [mkCho s u r]) vs' w' ∧ Upd (d :: fT) w w' ∧ (∀ k ∈ fT' ++ fR', k ∈ fT ++ fR ∨ w.heap.size ≤ k) ∧ ∀ k ∈ fT', k ∈ fT ∨ w.heap.size ≤ k := by
  obtain ⟨bS, ⟨ra, rn, rc⟩, f, q1, q2, q3, q4, q5, q6, q7, q8, q9⟩ := H.sr.at hs
  simp only at q5 q6
  have c4 := (H.cell (j := 4) rfl).1
  rw [q1] at c4
  have hkl := (List.getElem?_eq_some_iff.mp hs).1
  subst q6
  have HH : Hid _ := H
  have Q7 : Hid _ := q7
  have QF : Hid (∀ j ∈ f, j ∈ sg.foot) := q8
  have hbs := bs83
  have hbs2 := bs91
  have hd : d < w.heap.size := H.gr.lt
  clear H q7 q8 hs q1
  go_enter Ybaz.func81, Ybaz.ntmps81
  go_upto_region 2 with fail
  obtain ⟨b1, hb1⟩ : ∃ b, b = w.heap.size := ⟨_, rfl⟩
  obtain ⟨W1, hW1⟩ : ∃ z : World, z = w.alloc (.cells #[.int .i64 s.ob, .int .i64 s.wr, .int .i64 s.rk, .slice ra s.rd.length rc] 142) := ⟨_, rfl⟩
  have X1 : Blk W1 b1 142 #[.int .i64 s.ob, .int .i64 s.wr, .int .i64 s.rk, .slice ra s.rd.length rc] := by rw [hW1, hb1]; exact Blk.new _ _ _
  have U1 : Upd [] w W1 := by rw [hW1]; exact Upd.alloc _ _ _
  have z1 : W1.heap.size = b1 + 1 := by rw [hW1, hb1]; simp
  obtain ⟨W2, hW2⟩ : ∃ z : World, z = W1.alloc (.cells #[.slice none 0 0, .int .i64 u] 161) := ⟨_, rfl⟩
  have X2 : Blk W2 (b1 + 1) 161 #[.slice none 0 0, .int .i64 u] := by rw [hW2, ← z1]; exact Blk.new _ _ _
  have U2 : Upd [] W1 W2 := by rw [hW2]; exact Upd.alloc _ _ _
  rw [← hW1, ← hb1, ← hW2]
  have X1' := X1.keep U2 (by simp)
  have U12 : Hid (Upd [] w W2) := U1.trans U2 (by simp)
  have XH1 : Hid (Blk W2 b1 142 #[.int .i64 s.ob, .int .i64 s.wr, .int .i64 s.rk, .slice ra s.rd.length rc]) := X1'
  have BX : Hid (BoxL (b1 + 1) 0 3 1 0 [] [] W2) := BoxL.empty 3 1 (X2.cell 0) (X2.free 0)
  have CU : Hid (W2.cell? ⟨b1 + 1, 1, none⟩ = some (.int .i64 u)) := X2.cell 1
  have c3 : W2.cell? ⟨b1, 3, none⟩ = some (.slice ra s.rd.length rc) := X1'.cell 3
  have HB : Hid (b1 = w.heap.size) := hb1
  have hz2 : Hid (b1 + 2 ≤ W2.heap.size) := by
    have := X2.lt
    show b1 + 2 ≤ W2.heap.size
    omega
  clear hW1 hW2 X1 X2 X1' U1 U2 z1 hb1 q2 q3 q4 q5 c4
  go_wp2_with fail
  clear c3
  go_loopw [25] (fun t25 wr => ∃ (i : Nat) (xs fp : List Nat), i ≤ s.rd.length ∧ t25 = .int .i64 i ∧ xs = (s.rd.take i).filter (fun t => t != u) ∧ BoxL (b1 + 1) 0 3 1 xs.length fp (xs.map nI) wr ∧ wr.cell? ⟨b1 + 1, 1, none⟩ = some (.int .i64 u) ∧ Blk wr b1 142 #[.int .i64 s.ob, .int .i64 s.wr, .int .i64 s.rk, .slice ra s.rd.length rc] ∧ Upd [] w wr ∧ (∀ k ∈ fp, b1 + 2 ≤ k) ∧ b1 + 2 ≤ wr.heap.size) (fun a _ => s.rd.length - (intOf a).toNat)
  case atStart => exact ⟨0, [], [], by omega, rfl, by simp, BX.out, CU.out, XH1.out, U12.out, by simp, hz2.out⟩
  case round =>
    obtain ⟨i, xs, fp, hi, rfl, h1, h2, h3, h4, h5, h6, h7⟩ := hrel
    have XS : Hid (xs = (s.rd.take i).filter (fun t => t != u)) := h1
    have B2 : Hid _ := h2
    have C3 : Hid (wr.cell? ⟨b1 + 1, 1, none⟩ = some (.int .i64 u)) := h3
    have X4 : Hid (Blk wr b1 142 #[.int .i64 s.ob, .int .i64 s.wr, .int .i64 s.rk, .slice ra s.rd.length rc]) := h4
    have U5 : Hid (Upd [] w wr) := h5
    have F6 : Hid (∀ k ∈ fp, b1 + 2 ≤ k) := h6
    have hxl : xs.length ≤ s.rd.length := by
      rw [h1]
      exact Nat.le_trans (List.length_filter_le _ _) (by simp; omega)
    by_cases hlt : i < s.rd.length
    · obtain ⟨t, ht⟩ := has_at s.rd hlt
      obtain ⟨b, m1, m2, m3⟩ := Q7.out.get (j := i) (v := nI t) (by simp [ht])
      subst m1
      have m4 : wr.cell? ⟨b, i, none⟩ = some (.int .i64 t) := h5.cell m3 (by simp)
      have FT : Hid (s.rd[i]? = some t) := ht
      have FI : (s.rd.take (i + 1)).filter (fun t => t != u) = (s.rd.take i).filter (fun t => t != u) ++ [t].filter (fun t => t != u) := by
        rw [List.take_add_one, ht, Option.toList_some, List.filter_append]
      have FIH : Hid ((s.rd.take (i + 1)).filter (fun t => t != u) = (s.rd.take i).filter (fun t => t != u) ++ [t].filter (fun t => t != u)) := FI
      by_cases htu : t = u
      · subst htu
        clear h1 h2 h3 h4 h5 h6 ht m3 FI
        go_wp2_with fail
        refine ⟨⟨i + 1, xs, fp, by omega, by go_num, ?_, B2.out, C3.out, X4.out, U5.out, F6.out, h7⟩, by simp [intOf] <;> omega⟩
        rw [FIH.out, XS.out]; simp
      · have htu2 : ¬ ((t : Nat) : Int) = ((u : Nat) : Int) := by omega
        obtain ⟨a, c, y1, y2, y3⟩ := h2.lies
        have S3 : Hid _ := y3
        have NB : Hid (b1 + 1 ∉ fp) := h2.nb
        have Y1 : Hid (wr.cell? ⟨b1 + 1, 0, none⟩ = some (.slice a xs.length c)) := y1
        have ltb : b1 + 1 < wr.heap.size := by omega
        clear h1 h2 h3 h4 h5 h6 ht m3 FI y3
        go_wp2_with (first
          | (at_builtin; refine wpList_append_one wr _ (Upd.refl [] _) rfl (.tmp 33) (.tmp 35) 83 rfl 3 8 slInts (by decide) a xs.length c fp (xs.map nI) rfl S3.out (by simp) _ rfl _ _ rfl (by simp) (by omega) ?_; intro gX cX w7 sX uX fX; go_loud (have o1 := uX.cell y1 (by simpa using NB.out)); go_loud (have o2 := uX.free ltb y2 (by simpa using NB.out)); have SX : Hid _ := sX; have UX : Hid _ := uX; have FX : Hid _ := fX; clear sX uX fX))
        have UF : Upd fp wr w7 := UX.out
        obtain ⟨p1, p2, p3⟩ := B2.out.put Y1.out SX.out UF FX.out
        have nb1 : b1 ∉ (b1 + 1) :: fp := fun hm => by
          simp only [List.mem_cons] at hm
          rcases hm with hm | hm
          · omega
          · have := F6.out _ hm; omega
        refine ⟨⟨i + 1, xs ++ [t], [gX], by omega, by go_num, ?_, by simpa [nI] using p1, ?_, Blk.keep X4.out p2 nb1, ?_, ?_, ?_⟩, by simp [intOf] <;> omega⟩
        · rw [FIH.out, XS.out]; simp [htu]
        · have hc := UF.cell C3.out NB.out
          exact set_other hc (.inr (by omega))
        · exact U5.out.trans p2 (fun k hk => .inr (by
            have e1 := HB.out
            simp only [List.mem_cons] at hk
            rcases hk with rfl | hk
            · omega
            · have := F6.out k hk; omega))
        · intro k hk
          simp at hk
          subst hk
          rcases FX.out with z | z
          · exact F6.out _ z
          · omega
        · have := p2.size; omega
    · have hi2 : i = s.rd.length := by omega
      have XE : Hid (xs = s.rd.filter (fun t => t != u)) := by
        show xs = s.rd.filter (fun t => t != u)
        rw [h1, hi2, List.take_length]
      have c2 : wr.cell? ⟨b1, 2, none⟩ = some (.int .i64 s.rk) := Blk.cell h4 2
      have c1 : wr.cell? ⟨b1, 1, none⟩ = some (.int .i64 s.wr) := Blk.cell h4 1
      obtain ⟨a, c, y1, y2, y3⟩ := h2.lies
      have S3 : Hid _ := y3
      have PW := HH.out.grow h5
      have PWH : Hid _ := PW
      have c6 := (PW.cell (j := 6) rfl).1
      have z6 := (PW.cell (j := 6) rfl).2
      clear h1 h2 h4 h5 h6 y3 PW
      by_cases hr : r < s.rk
      · obtain ⟨bA, hbA⟩ : ∃ b, b = wr.heap.size := ⟨_, rfl⟩
        obtain ⟨wa, hwa⟩ : ∃ z : World, z = wr.alloc (.cells #[.int .i64 u] 3) := ⟨_, rfl⟩
        have Ua : Upd [] wr wa := by rw [hwa]; exact Upd.alloc _ _ _
        have za : wa.heap.size = bA + 1 := by rw [hwa, hbA]; simp
        have XA : Blk wa bA 3 #[.int .i64 u] := by rw [hwa, hbA]; exact Blk.new _ _ _
        obtain ⟨wb, hwb⟩ : ∃ z : World, z = (wa.alloc (.cells #[.slice (some ⟨bA, 0, none⟩) 1 1, .int .i64 s.wr, .slice a xs.length c, .int .i64 u, .int .i64 0] 164)).drew := ⟨_, rfl⟩
        have Ub : Upd [] (wa.alloc (.cells #[.slice (some ⟨bA, 0, none⟩) 1 1, .int .i64 s.wr, .slice a xs.length c, .int .i64 u, .int .i64 0] 164)) wb := by rw [hwb]; exact Upd.drew _ _
        have PA := PWH.out.grow Ua
        obtain ⟨gR, cR, w1, hrun, r1, r2, r3⟩ := run_appended (P := Ybaz.prog) wa wb 91 91 164 5 72 slChos (by decide) v.a v.n v.c fT _ PA.ch.top [.slice (some ⟨bA, 0, none⟩) 1 1, .int .i64 s.wr, .slice a xs.length c, .int .i64 u, .int .i64 0] rfl (by simp [Value.oneCell']) (by rw [PA.ch.n]; omega) Ub
        have dT : d ∉ fT := fun hm => HH.out.ap d (by simp [hm]) (by simp [polyFp])
        have a6 := (PA.cell (j := 6) rfl)
        have e6 := r2.cell a6.1 dT
        have f6 := r2.free PA.gr.lt a6.2 dT
        rw [hwb, hwa, hbA, show (wr.alloc (.cells #[.int .i64 u] 3)).heap.size = wr.heap.size + 1 by simp] at hrun
        have R1 : Hid _ := r1
        have R2 : Hid (Upd fT wa w1) := r2
        have R3 : Hid (gR ∈ fT ∨ wa.heap.size ≤ gR) := r3
        have PAH : Hid _ := PA
        have UaH : Hid (Upd [] wr wa) := Ua
        have XAH : Hid (Blk wa bA 3 #[.int .i64 u]) := XA
        have ZA : Hid (wa.heap.size = bA + 1) := za
        have HBA : Hid (bA = wr.heap.size) := hbA
        have hdw : d < wr.heap.size := Nat.lt_of_lt_of_le hd U5.out.size
        have hb1w : b1 < wr.heap.size := by omega
        have hb2w : b1 + 1 < wr.heap.size := by omega
        clear r1 r2 r3 PA Ua XA Ub hwa hwb hbA za a6
        go_wp2_with fail
        go_big_region
        go_wp2_with fail
        go_end0
        refine ⟨rfl, ?_⟩
        have hvn := PAH.out.ch.n
        have nN : ∀ k ∈ fR ++ ([bA] ++ fp), k ∈ fR ∨ wr.heap.size ≤ k ∨ b1 + 2 ≤ k := by
          intro k hk
          simp only [List.mem_append, List.mem_singleton] at hk
          rcases hk with hk | rfl | hk
          · exact .inl hk
          · exact .inr (.inl (by rw [HBA.out]; exact Nat.le_refl _))
          · exact .inr (.inr (F6.out k hk))
        have ltT := HH.out.lt
        have hwb1 : w.heap.size = b1 := HB.out.symm
        have nT : ∀ k ∈ fR ++ ([bA] ++ fp), k ∉ fT := by
          intro k hk hm
          have l1 := ltT k (by simp [hm])
          rcases nN k hk with z | z | z
          · exact HH.out.ch.nd k hm z
          · omega
          · omega
        have CM : ChM w1 ⟨some ⟨gR, 0, none⟩, v.n + 1, cR⟩ [gR] (fR ++ ([bA] ++ fp)) (cs ++ [mkCho s u r]) (vs ++ [(⟨some ⟨bA, 0, none⟩, 1, 1⟩, ⟨a, xs.length, c⟩)]) := by
          have CA := PAH.out.ch
          refine ⟨by simp [CA.len], by simp [hvn], ?_, ?_, ?_, ?_⟩
          · have := R1.out
            rw [List.zip_append CA.len.symm, List.flatMap_append]
            simpa [chC, mkCho, SV.val, nI, hr] using this
          · intro i' C p hC hp
            by_cases e : i' < cs.length
            · rw [List.getElem?_append_left e] at hC
              rw [List.getElem?_append_left (by rw [CA.len]; exact e)] at hp
              obtain ⟨g1, g2⟩ := CA.rows i' C p hC hp
              refine ⟨(g1.keep R2.out ?_).mono (fun k hk => by simp [hk]), (g2.keep R2.out ?_).mono (fun k hk => by simp [hk])⟩
              · exact fun k hk => nT k (by simp [hk])
              · exact fun k hk => nT k (by simp [hk])
            · have e2 := (List.getElem?_eq_some_iff.mp hC).1
              have e3 : i' = cs.length := by simp at e2; omega
              subst e3
              rw [List.getElem?_append_right (Nat.le_refl _)] at hC
              rw [List.getElem?_append_right (by rw [CA.len]; exact Nat.le_refl _)] at hp
              simp at hC
              simp [CA.len] at hp
              subst hC hp
              constructor
              · refine ⟨rfl, Nat.le_refl _, by simp, fun j x hx => ?_⟩
                have hj : j = 0 := by
                  have := (List.getElem?_eq_some_iff.mp hx).1
                  simp [mkCho] at this
                  omega
                subst hj
                simp [mkCho] at hx
                subst hx
                exact ⟨bA, by simp, rfl, R2.out.cell (Blk.cell XAH.out 0) (nT bA (by simp))⟩
              · have rv := Go.Proofs.YbulkctquGreatFmt.Sl.rowV (fV := fR ++ ([bA] ++ fp)) ((S3.out.keep UaH.out (by simp)).keep R2.out (fun k hk => nT k (by simp [hk]))) (fun k hk => by simp [hk])
                simp only [mkCho]
                rw [← XE.out]
                exact rv
          · intro k hk
            have l2 := R2.out.size
            simp only [List.mem_append, List.mem_singleton] at hk
            rcases hk with hk | rfl | hk
            · have := CA.lt k hk; omega
            · have := ZA.out; omega
            · have := S3.out.lt k hk; have := UaH.out.size; omega
          · intro k hk hm
            simp at hk
            subst hk
            rcases R3.out with z | z
            · exact nT k hm z
            · have e1 := ZA.out
              have e2 := HBA.out
              simp only [List.mem_append, List.mem_singleton] at hm
              rcases hm with hm | rfl | hm
              · have := PAH.out.ch.lt k hm; omega
              · omega
              · have := S3.out.lt k hm; omega
        have UW : Upd fT w w1 := ((U5.out.trans UaH.out (by simp)).mono (by simp)).trans R2.out (fun k hk => .inl hk)
        have NW : ∀ k ∈ [gR] ++ (fR ++ ([bA] ++ fp)), k ∈ fT ++ fR ∨ w.heap.size ≤ k := by
          intro k hk
          simp only [List.mem_append, List.mem_singleton] at hk ⊢
          have e2 := HBA.out
          have e3 := U5.out.size
          rcases hk with rfl | hk | rfl | hk
          · rcases R3.out with z | z
            · exact .inl (.inl z)
            · exact .inr (by have := ZA.out; omega)
          · exact .inl (.inr hk)
          · exact .inr (by omega)
          · exact .inr (by have := F6.out k hk; omega)
        obtain ⟨g', p1, p2, p3⟩ := HH.out.put UW CM NW
        refine ⟨g', _, _, _, _, p1, p2, p3, NW, fun k hk => ?_⟩
        simp at hk
        subst hk
        rcases R3.out with z | z
        · exact .inl z
        · exact .inr (by have := ZA.out; have := HBA.out; have := U5.out.size; omega)
      · obtain ⟨bA, hbA⟩ : ∃ b, b = wr.heap.size := ⟨_, rfl⟩
        obtain ⟨wa, hwa⟩ : ∃ z : World, z = wr.alloc (.cells #[.int .i64 u] 3) := ⟨_, rfl⟩
        have Ua : Upd [] wr wa := by rw [hwa]; exact Upd.alloc _ _ _
        have za : wa.heap.size = bA + 1 := by rw [hwa, hbA]; simp
        have XA : Blk wa bA 3 #[.int .i64 u] := by rw [hwa, hbA]; exact Blk.new _ _ _
        obtain ⟨wb, hwb⟩ : ∃ z : World, z = (wa.alloc (.cells #[.slice (some ⟨bA, 0, none⟩) 1 1, .int .i64 s.wr, .slice a xs.length c, .int .i64 u, .int .i64 1] 164)).drew := ⟨_, rfl⟩
        have Ub : Upd [] (wa.alloc (.cells #[.slice (some ⟨bA, 0, none⟩) 1 1, .int .i64 s.wr, .slice a xs.length c, .int .i64 u, .int .i64 1] 164)) wb := by rw [hwb]; exact Upd.drew _ _
        have PA := PWH.out.grow Ua
        obtain ⟨gR, cR, w1, hrun, r1, r2, r3⟩ := run_appended (P := Ybaz.prog) wa wb 91 91 164 5 72 slChos (by decide) v.a v.n v.c fT _ PA.ch.top [.slice (some ⟨bA, 0, none⟩) 1 1, .int .i64 s.wr, .slice a xs.length c, .int .i64 u, .int .i64 1] rfl (by simp [Value.oneCell']) (by rw [PA.ch.n]; omega) Ub
        have dT : d ∉ fT := fun hm => HH.out.ap d (by simp [hm]) (by simp [polyFp])
        have a6 := (PA.cell (j := 6) rfl)
        have e6 := r2.cell a6.1 dT
        have f6 := r2.free PA.gr.lt a6.2 dT
        rw [hwb, hwa, hbA, show (wr.alloc (.cells #[.int .i64 u] 3)).heap.size = wr.heap.size + 1 by simp] at hrun
        have R1 : Hid _ := r1
        have R2 : Hid (Upd fT wa w1) := r2
        have R3 : Hid (gR ∈ fT ∨ wa.heap.size ≤ gR) := r3
        have PAH : Hid _ := PA
        have UaH : Hid (Upd [] wr wa) := Ua
        have XAH : Hid (Blk wa bA 3 #[.int .i64 u]) := XA
        have ZA : Hid (wa.heap.size = bA + 1) := za
        have HBA : Hid (bA = wr.heap.size) := hbA
        have hdw : d < wr.heap.size := Nat.lt_of_lt_of_le hd U5.out.size
        have hb1w : b1 < wr.heap.size := by omega
        have hb2w : b1 + 1 < wr.heap.size := by omega
        clear r1 r2 r3 PA Ua XA Ub hwa hwb hbA za a6
        go_wp2_with fail
        go_big_region
        go_wp2_with fail
        go_end0
        refine ⟨rfl, ?_⟩
        have hvn := PAH.out.ch.n
        have nN : ∀ k ∈ fR ++ ([bA] ++ fp), k ∈ fR ∨ wr.heap.size ≤ k ∨ b1 + 2 ≤ k := by
          intro k hk
          simp only [List.mem_append, List.mem_singleton] at hk
          rcases hk with hk | rfl | hk
          · exact .inl hk
          · exact .inr (.inl (by rw [HBA.out]; exact Nat.le_refl _))
          · exact .inr (.inr (F6.out k hk))
        have ltT := HH.out.lt
        have hwb1 : w.heap.size = b1 := HB.out.symm
        have nT : ∀ k ∈ fR ++ ([bA] ++ fp), k ∉ fT := by
          intro k hk hm
          have l1 := ltT k (by simp [hm])
          rcases nN k hk with z | z | z
          · exact HH.out.ch.nd k hm z
          · omega
          · omega
        have CM : ChM w1 ⟨some ⟨gR, 0, none⟩, v.n + 1, cR⟩ [gR] (fR ++ ([bA] ++ fp)) (cs ++ [mkCho s u r]) (vs ++ [(⟨some ⟨bA, 0, none⟩, 1, 1⟩, ⟨a, xs.length, c⟩)]) := by
          have CA := PAH.out.ch
          refine ⟨by simp [CA.len], by simp [hvn], ?_, ?_, ?_, ?_⟩
          · have := R1.out
            rw [List.zip_append CA.len.symm, List.flatMap_append]
            simpa [chC, mkCho, SV.val, nI, hr] using this
          · intro i' C p hC hp
            by_cases e : i' < cs.length
            · rw [List.getElem?_append_left e] at hC
              rw [List.getElem?_append_left (by rw [CA.len]; exact e)] at hp
              obtain ⟨g1, g2⟩ := CA.rows i' C p hC hp
              refine ⟨(g1.keep R2.out ?_).mono (fun k hk => by simp [hk]), (g2.keep R2.out ?_).mono (fun k hk => by simp [hk])⟩
              · exact fun k hk => nT k (by simp [hk])
              · exact fun k hk => nT k (by simp [hk])
            · have e2 := (List.getElem?_eq_some_iff.mp hC).1
              have e3 : i' = cs.length := by simp at e2; omega
              subst e3
              rw [List.getElem?_append_right (Nat.le_refl _)] at hC
              rw [List.getElem?_append_right (by rw [CA.len]; exact Nat.le_refl _)] at hp
              simp at hC
              simp [CA.len] at hp
              subst hC hp
              constructor
              · refine ⟨rfl, Nat.le_refl _, by simp, fun j x hx => ?_⟩
                have hj : j = 0 := by
                  have := (List.getElem?_eq_some_iff.mp hx).1
                  simp [mkCho] at this
                  omega
                subst hj
                simp [mkCho] at hx
                subst hx
                exact ⟨bA, by simp, rfl, R2.out.cell (Blk.cell XAH.out 0) (nT bA (by simp))⟩
              · have rv := Go.Proofs.YbulkctquGreatFmt.Sl.rowV (fV := fR ++ ([bA] ++ fp)) ((S3.out.keep UaH.out (by simp)).keep R2.out (fun k hk => nT k (by simp [hk]))) (fun k hk => by simp [hk])
                simp only [mkCho]
                rw [← XE.out]
                exact rv
          · intro k hk
            have l2 := R2.out.size
            simp only [List.mem_append, List.mem_singleton] at hk
            rcases hk with hk | rfl | hk
            · have := CA.lt k hk; omega
            · have := ZA.out; omega
            · have := S3.out.lt k hk; have := UaH.out.size; omega
          · intro k hk hm
            simp at hk
            subst hk
            rcases R3.out with z | z
            · exact nT k hm z
            · have e1 := ZA.out
              have e2 := HBA.out
              simp only [List.mem_append, List.mem_singleton] at hm
              rcases hm with hm | rfl | hm
              · have := PAH.out.ch.lt k hm; omega
              · omega
              · have := S3.out.lt k hm; omega
        have UW : Upd fT w w1 := ((U5.out.trans UaH.out (by simp)).mono (by simp)).trans R2.out (fun k hk => .inl hk)
        have NW : ∀ k ∈ [gR] ++ (fR ++ ([bA] ++ fp)), k ∈ fT ++ fR ∨ w.heap.size ≤ k := by
          intro k hk
          simp only [List.mem_append, List.mem_singleton] at hk ⊢
          have e2 := HBA.out
          have e3 := U5.out.size
          rcases hk with rfl | hk | rfl | hk
          · rcases R3.out with z | z
            · exact .inl (.inl z)
            · exact .inr (by have := ZA.out; omega)
          · exact .inl (.inr hk)
          · exact .inr (by omega)
          · exact .inr (by have := F6.out k hk; omega)
        obtain ⟨g', p1, p2, p3⟩ := HH.out.put UW CM NW
        refine ⟨g', _, _, _, _, p1, p2, p3, NW, fun k hk => ?_⟩
        simp at hk
        subst hk
        rcases R3.out with z | z
        · exact .inl z
        · exact .inr (by have := ZA.out; have := HBA.out; have := U5.out.size; omega)
end Go.Proofs.YbulkctquGreatFmt

/-
  slices.SortFunc over the nodes of a knot.
-/
import Derived.Test.YbulkctquGreatFmtChoA
import Derived.Test.YbulkctquGreatFmtTkB
namespace Go.Proofs.YbulkctquGreatFmt
open Go.ChangeShapes Go.WideShapes Go.ChangeAt Go.RowKit Go.Ord
set_option linter.unusedVariables false

theorem ins93g (M n : Nat) (key : Fin (M + 1) → Nat) (w : World) (blk cap : Nat) (cb : Array Value) (hn : 0 < n) (hk : n ≤ 12) (d : Array (Fin (M + 1))) (hd : d.size = n)
    (hS : Sl w 3 1 (some ⟨blk, 0, none⟩) n cap [blk] (d.toList.map fun t => nI t.val))
    (hcm : ∀ W, Upd [blk] w W → ∀ x y : Fin (M + 1), Calls Ybaz.prog 69 (#[.int .i64 x.val, .int .i64 y.val] ++ cb) W fun e w' => e = .returned (.int .i64 (cmpZ (key x) (key y))) ∧ ∃ q, w' = W.drewN q) :
    Calls Ybaz.prog 93 #[.slice (some ⟨blk, 0, none⟩) n cap, .int .i64 0, .int .i64 (n : Int), .func (.func 69) #[] cb] w fun e w' => e = .returned (.tuple #[]) ∧
      ∃ d' : Array (Fin (M + 1)), d'.size = n ∧ Sl w' 3 1 (some ⟨blk, 0, none⟩) n cap [blk] (d'.toList.map fun t => nI t.val) ∧ Upd [blk] w w' := by
  obtain ⟨g, hg, _, hlt, hcell, hfree⟩ := hS.has hn
  injection hg with hg
  injection hg with hg
  subst hg
  have hH : Sort.Holds (fun t : Fin (M + 1) => nI t.val) w blk 0 d := by
    intro j hj
    refine ⟨?_, by rw [Nat.zero_add]; exact hfree j⟩
    rw [Nat.zero_add, hcell j (by omega)]
    simp [hj]
  have hcmp : CmpLays1 Ybaz.prog 69 cb (fun t : Fin (M + 1) => nI t.val) (fun x y => cmpZ (key x) (key y)) blk 0 d.size w := by
    intro n' os dk hdk x y
    have u := (sl_put hS (fun t : Fin (M + 1) => nI t.val) dk (by omega) n' os).2
    refine (hcm _ u x y).mono ?_
    rintro e w' ⟨rfl, q, rfl⟩
    exact ⟨rfl, q, #[], by rw [Sort.grow_empty]; rfl⟩
  have key' := Any.insertionSortCmpFunc_s Ybaz.insC (fun t : Fin (M + 1) => nI t.val) (fun x y => cmpZ (key x) (key y)) 69 cb blk 0 cap 0 n d d w w
    (enters_of Ybaz.func69 (by kernel_rfl) rfl) hcmp ⟨fun x => rfl, hH, hlt⟩ rfl (SW.start hH) (by omega) (by omega) (by omega)
  rw [hd] at key'
  refine Calls.mono key' ?_
  rintro e w' ⟨rfl, n', os, rfl⟩
  have h : (Sort.insertionSort (ltOf fun x y => cmpZ (key x) (key y)) d 0 n).size = n := by
    obtain ⟨⟨p1, p2, p3⟩, p4⟩ := Sort.insertionSort_holds (lt := ltOf fun x y => cmpZ (key x) (key y)) (key_swo key) d 0 n (by omega) (by omega)
    omega
  have q := sl_put hS (fun t : Fin (M + 1) => nI t.val) (Sort.insertionSort (ltOf fun x y => cmpZ (key x) (key y)) d 0 n) (by omega) n' os
  exact ⟨rfl, _, h, q.1, q.2⟩
set_option maxRecDepth 100000 in
theorem first69 (W : World) (b0 d bF m t u pt pu : Nat) (hm : m < 1000) (ht : t < m) (hu : u < m) (h0 : W.cell? ⟨b0, 0, none⟩ = some (.pointer (some ⟨d, 0, none⟩))) (hc : W.cell? ⟨d, 1, none⟩ = some (.slice (some ⟨bF, 0, none⟩) m m)) (h1 : W.cell? ⟨bF, t, none⟩ = some (.int .i64 pt)) (h2 : W.cell? ⟨bF, u, none⟩ = some (.int .i64 pu)) :
    Calls Ybaz.prog 69 #[.int .i64 t, .int .i64 u, .pointer (some ⟨b0, 0, none⟩)] W fun e w' => e = .returned (.int .i64 (cmpZ pt pu)) ∧ ∃ q, w' = W.drewN q := by
  go_enter Ybaz.func69, Ybaz.ntmps69
  go_wp2_with fail
  go_big_quiet ((go_at_call 33; refine Calls.quiet_of_same (cmpInt _ _ _)))
  go_wp2_with fail
  go_ret
  exact ⟨rfl, _, rfl⟩
/-- What a sort of a knot leaves. -/
def SrtPost (blk n cap M : Nat) (w : World) : Ending → World → Prop := fun e w' => e = .returned (.tuple #[]) ∧ ∃ d' : Array (Fin (M + 1)), d'.size = n ∧ Sl w' 3 1 (some ⟨blk, 0, none⟩) n cap [blk] (d'.toList.map fun t => nI t.val) ∧ Upd [blk] w w'
theorem pdq97g (M n : Nat) (key : Fin (M + 1) → Nat) (w : World) (blk cap : Nat) (lim : Int) (cb : Array Value) (hn : 0 < n) (hk : n ≤ 12) (d : Array (Fin (M + 1))) (hd : d.size = n)
    (hS : Sl w 3 1 (some ⟨blk, 0, none⟩) n cap [blk] (d.toList.map fun t => nI t.val))
    (hcm : ∀ W, Upd [blk] w W → ∀ x y : Fin (M + 1), Calls Ybaz.prog 69 (#[.int .i64 x.val, .int .i64 y.val] ++ cb) W fun e w' => e = .returned (.int .i64 (cmpZ (key x) (key y))) ∧ ∃ q, w' = W.drewN q) :
    Calls Ybaz.prog 97 #[.slice (some ⟨blk, 0, none⟩) n cap, .int .i64 0, .int .i64 (n : Int), .int .i64 lim, .func (.func 69) #[] cb] w (SrtPost blk n cap M w) := by
  have K : Hid _ := ins93g M n key w blk cap cb hn hk d hd hS hcm
  clear hS hcm
  go_enter Ybaz.func97, Ybaz.ntmps97
  go_wp2_with fail
  refine wp_loop_once ?_
  go_wp2_with fail
  refine Calls.mono K.out ?_
  rintro e w' ⟨rfl, d', q1, q2, q3⟩
  have Q : Hid (d'.size = n ∧ Sl w' 3 1 (some ⟨blk, 0, none⟩) n cap [blk] (d'.toList.map fun t => nI t.val) ∧ Upd [blk] w w') := ⟨q1, q2, q3⟩
  clear q1 q2 q3
  go_wp2_with fail
  (try simp only [Exit.inBlock, Exit.then])
  refine bodyPost_ret (results_none rfl _ _ _) rfl ?_
  exact ⟨rfl, d', Q.out⟩
theorem sort68g (M n : Nat) (key : Fin (M + 1) → Nat) (w : World) (blk cap : Nat) (cb : Array Value) (hn : 0 < n) (hk : n ≤ 12) (d : Array (Fin (M + 1))) (hd : d.size = n)
    (hS : Sl w 3 1 (some ⟨blk, 0, none⟩) n cap [blk] (d.toList.map fun t => nI t.val))
    (hcm : ∀ W, Upd [blk] w W → ∀ x y : Fin (M + 1), Calls Ybaz.prog 69 (#[.int .i64 x.val, .int .i64 y.val] ++ cb) W fun e w' => e = .returned (.int .i64 (cmpZ (key x) (key y))) ∧ ∃ q, w' = W.drewN q) :
    Calls Ybaz.prog 68 #[.slice (some ⟨blk, 0, none⟩) n cap, .func (.func 69) #[] cb] w (SrtPost blk n cap M w) := by
  have K : Hid (∀ lim : Int, Calls Ybaz.prog 97 #[.slice (some ⟨blk, 0, none⟩) n cap, .int .i64 0, .int .i64 (n : Int), .int .i64 lim, .func (.func 69) #[] cb] w (SrtPost blk n cap M w)) := fun lim => pdq97g M n key w blk cap lim cb hn hk d hd hS hcm
  clear hS hcm
  go_enter Ybaz.func68, Ybaz.ntmps68
  go_wp2_with fail
  refine (len64 n (by omega) w).mono ?_
  rintro e w1 ⟨l, hl, rfl, rfl⟩
  go_wp2_with fail
  refine Calls.mono (K.out _) ?_
  rintro e w' ⟨rfl, d', q1, q2, q3⟩
  have Q : Hid (d'.size = n ∧ Sl w' 3 1 (some ⟨blk, 0, none⟩) n cap [blk] (d'.toList.map fun t => nI t.val) ∧ Upd [blk] w1 w') := ⟨q1, q2, q3⟩
  clear q1 q2 q3
  go_wp2_with fail
  go_end0
  exact ⟨rfl, d', Q.out⟩
end Go.Proofs.YbulkctquGreatFmt

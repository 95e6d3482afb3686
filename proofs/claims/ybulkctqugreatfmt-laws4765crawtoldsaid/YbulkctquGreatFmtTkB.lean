/-
  takeUp's library calls: SortFunc at 12 elements or fewer, MaxFunc, BinarySearchFunc.
-/
import Derived.Test.YbulkctquGreatFmtTkA
import Derived.Test.YbulkctquGreatFmtSortH
namespace Go.Proofs.YbulkctquGreatFmt
open Go.ChangeShapes Go.WideShapes Go.ChangeAt Go.RowKit Go.Ord
set_option linter.unusedVariables false

theorem take_snoc' {α : Type} {l : List α} {i : Nat} {x : α} (h : l[i]? = some x) : l.take (i + 1) = l.take i ++ [x] := by rw [List.take_add_one, h]; rfl
theorem key_swo {m : Nat} (key : Fin m → Nat) : Sort.SWO (ltOf fun x y => cmpZ (key x) (key y)) := by
  have e : ∀ x y, ltOf (fun x y => cmpZ (key x) (key y)) x y = true ↔ key x < key y := fun x y => by
    simp only [ltOf, decide_eq_true_eq]; rw [cmpZ_neg]; omega
  have f : ∀ x y, ltOf (fun x y => cmpZ (key x) (key y)) x y = false ↔ ¬ key x < key y := fun x y => by
    rw [← e, Bool.not_eq_true]
  refine ⟨fun x => ?_, fun x y z h1 h2 => ?_, fun x y z h1 h2 => ?_⟩
  · rw [f]; omega
  · rw [e] at *; omega
  · rw [f] at *; omega
theorem ins93k (k : Nat) (key : Fin (k + 1) → Nat) (w : World) (blk cap : Nat) (cb : Array Value) (hk : k < 12) (d : Array (Fin (k + 1))) (hd : d.size = k + 1)
    (hS : Sl w 3 1 (some ⟨blk, 0, none⟩) (k + 1) cap [blk] (d.toList.map fun t => nI t.val))
    (hcm : ∀ W, Upd [blk] w W → ∀ x y : Fin (k + 1), Calls Ybaz.prog 77 (#[.int .i64 x.val, .int .i64 y.val] ++ cb) W fun e w' => e = .returned (.int .i64 (cmpZ (key x) (key y))) ∧ ∃ q, w' = W.drewN q) :
    Calls Ybaz.prog 93 #[.slice (some ⟨blk, 0, none⟩) ((k + 1 : Nat)) cap, .int .i64 0, .int .i64 ((k + 1 : Nat) : Int), .func (.func 77) #[] cb] w fun e w' => e = .returned (.tuple #[]) ∧
      ∃ d' : Array (Fin (k + 1)), d'.size = k + 1 ∧ d'.toList.Perm d.toList ∧ (∀ i j, i < j → j < k + 1 → ¬ key d'[j]! < key d'[i]!) ∧ Sl w' 3 1 (some ⟨blk, 0, none⟩) (k + 1) cap [blk] (d'.toList.map fun t => nI t.val) ∧ Upd [blk] w w' := by
  obtain ⟨g, hg, _, hlt, hcell, hfree⟩ := hS.has (by omega)
  injection hg with hg
  injection hg with hg
  subst hg
  have hH : Sort.Holds (fun t : Fin (k + 1) => nI t.val) w blk 0 d := by
    intro j hj
    refine ⟨?_, by rw [Nat.zero_add]; exact hfree j⟩
    rw [Nat.zero_add, hcell j (by omega)]
    simp [hj]
  have hcmp : CmpLays1 Ybaz.prog 77 cb (fun t : Fin (k + 1) => nI t.val) (fun x y => cmpZ (key x) (key y)) blk 0 d.size w := by
    intro n os dk hdk x y
    have u := (sl_put hS (fun t : Fin (k + 1) => nI t.val) dk (by omega) n os).2
    refine (hcm _ u x y).mono ?_
    rintro e w' ⟨rfl, q, rfl⟩
    exact ⟨rfl, q, #[], by rw [Sort.grow_empty]; rfl⟩
  have key' := Any.insertionSortCmpFunc_s Ybaz.insC (fun t : Fin (k + 1) => nI t.val) (fun x y => cmpZ (key x) (key y)) 77 cb blk 0 cap 0 (k + 1) d d w w
    (enters_of Ybaz.func77 (by kernel_rfl) rfl) hcmp ⟨fun x => rfl, hH, hlt⟩ rfl (SW.start hH) (by omega) (by omega) (by omega)
  rw [hd] at key'
  refine Calls.mono key' ?_
  rintro e w' ⟨rfl, n, os, rfl⟩
  have h := Sort.insertionSort_holds (lt := ltOf fun x y => cmpZ (key x) (key y)) (key_swo key) d 0 (k + 1) (by omega) (by omega)
  obtain ⟨⟨p1, p2, p3⟩, p4⟩ := h
  have q := sl_put hS (fun t : Fin (k + 1) => nI t.val) (Sort.insertionSort (ltOf fun x y => cmpZ (key x) (key y)) d 0 (k + 1)) (by omega) n os
  refine ⟨rfl, _, by omega, ?_, ?_, q.1, q.2⟩
  · have e1 : ∀ a : Array (Fin (k + 1)), a.size = k + 1 → a.extract 0 (k + 1) = a := fun a ha => by apply Array.ext'; simp [List.take_of_length_le, ha]
    rw [e1 _ hd, e1 _ (by omega)] at p3
    exact p3
  · intro i j hij hj
    have := p4 i j (by omega) hij hj
    simp only [ltOf, decide_eq_false_iff_not] at this
    rw [cmpZ_neg] at this
    omega
theorem pdq97 (m : Nat) (hm : m ≤ 12) (key : Nat → Nat) (w : World) (blk cap : Nat) (lim : Int) (cb : Array Value) (hS : Sl w 3 1 (some ⟨blk, 0, none⟩) m cap [blk] ((List.range m).map nI))
    (hcm : ∀ W, Upd [blk] w W → ∀ x y : Nat, x < m → y < m → Calls Ybaz.prog 77 (#[.int .i64 x, .int .i64 y] ++ cb) W fun e w' => e = .returned (.int .i64 (cmpZ (key x) (key y))) ∧ ∃ q, w' = W.drewN q) :
    Calls Ybaz.prog 97 #[.slice (some ⟨blk, 0, none⟩) m cap, .int .i64 0, .int .i64 m, .int .i64 lim, .func (.func 77) #[] cb] w fun e w' => e = .returned (.tuple #[]) ∧
      ∃ zs : List Nat, zs.Perm (List.range m) ∧ (∀ i j a b : Nat, i < j → zs[i]? = some a → zs[j]? = some b → ¬ key b < key a) ∧ Sl w' 3 1 (some ⟨blk, 0, none⟩) m cap [blk] (zs.map nI) ∧ Upd [blk] w w' := by
  have K : Hid (Calls Ybaz.prog 93 #[.slice (some ⟨blk, 0, none⟩) m cap, .int .i64 0, .int .i64 m, .func (.func 77) #[] cb] w fun e w' => e = .returned (.tuple #[]) ∧
      ∃ zs : List Nat, zs.Perm (List.range m) ∧ (∀ i j a b : Nat, i < j → zs[i]? = some a → zs[j]? = some b → ¬ key b < key a) ∧ Sl w' 3 1 (some ⟨blk, 0, none⟩) m cap [blk] (zs.map nI) ∧ Upd [blk] w w') := by
    cases m with
    | zero =>
      refine Calls.mono (ins93_0 w blk cap _) ?_
      rintro e w' ⟨rfl, rfl⟩
      exact ⟨rfl, [], by simp, fun i j a b _ h => by simp at h, by simpa using hS, Upd.refl _ _⟩
    | succ k =>
      have hd : (Array.ofFn (n := k + 1) id).size = k + 1 := by simp
      have e0 : (Array.ofFn (n := k + 1) id).toList.map (fun t : Fin (k + 1) => t.val) = List.range (k + 1) := by
        apply List.ext_getElem?
        intro j
        by_cases hj : j < k + 1
        · rw [List.getElem?_range hj, List.getElem?_map, List.getElem?_eq_getElem (by simpa using hj)]
          simp only [Option.map_some, Array.getElem_toList, Array.getElem_ofFn, id]
        · simp [hj]
      have e1 : (Array.ofFn (n := k + 1) id).toList.map (fun t : Fin (k + 1) => nI t.val) = (List.range (k + 1)).map nI := by
        rw [← e0, List.map_map]; rfl
      refine Calls.mono (ins93k k (fun i => key i.val) w blk cap cb (by omega) (Array.ofFn id) hd (by rw [e1]; exact hS) (fun W u x y => hcm W u x.val y.val x.isLt y.isLt)) ?_
      rintro e w' ⟨rfl, d', q1, q2, q3, q4, q5⟩
      refine ⟨rfl, d'.toList.map (fun t => t.val), ?_, ?_, by rw [List.map_map]; exact q4, q5⟩
      · have := q2.map (fun t : Fin (k + 1) => t.val)
        rw [e0] at this
        exact this
      · intro i j a b hij ha hb
        have hj : j < k + 1 := by
          have := (List.getElem?_eq_some_iff.mp hb).1
          simp at this; omega
        have := q3 i j hij hj
        have f : ∀ t c, t < k + 1 → (d'.toList.map (fun t => t.val))[t]? = some c → (d'[t]!).val = c := by
          intro t c ht h0
          have e2 : d'[t]! = d'[t]'(by omega) := getElem!_pos d' t (by omega)
          simp only [List.getElem?_map, Array.getElem?_toList, Array.getElem?_eq_getElem (show t < d'.size by omega), Option.map_some, Option.some.injEq] at h0
          rw [e2]; exact h0
        rw [f i a (by omega) ha, f j b hj hb] at this
        exact this
  clear hS hcm
  go_enter Ybaz.func97, Ybaz.ntmps97
  go_wp2_with fail
  refine wp_loop_once ?_
  go_wp2_with fail
  refine K.out.mono ?_
  rintro e w' ⟨rfl, zs, q1, q2, q3, q4⟩
  have Q : Hid (zs.Perm (List.range m) ∧ (∀ i j a b : Nat, i < j → zs[i]? = some a → zs[j]? = some b → ¬ key b < key a) ∧ Sl w' 3 1 (some ⟨blk, 0, none⟩) m cap [blk] (zs.map nI) ∧ Upd [blk] w w') := ⟨q1, q2, q3, q4⟩
  clear q1 q2 q3 q4
  go_wp2_with fail
  (try simp only [Exit.inBlock, Exit.then])
  refine bodyPost_ret (results_none rfl _ _ _) rfl ?_
  exact ⟨rfl, zs, Q.out⟩
theorem sort68 (m : Nat) (hm : m ≤ 12) (key : Nat → Nat) (w : World) (blk cap : Nat) (cb : Array Value) (hS : Sl w 3 1 (some ⟨blk, 0, none⟩) m cap [blk] ((List.range m).map nI))
    (hcm : ∀ W, Upd [blk] w W → ∀ x y : Nat, x < m → y < m → Calls Ybaz.prog 77 (#[.int .i64 x, .int .i64 y] ++ cb) W fun e w' => e = .returned (.int .i64 (cmpZ (key x) (key y))) ∧ ∃ q, w' = W.drewN q) :
    Calls Ybaz.prog 68 #[.slice (some ⟨blk, 0, none⟩) m cap, .func (.func 77) #[] cb] w fun e w' => e = .returned (.tuple #[]) ∧
      ∃ zs : List Nat, zs.Perm (List.range m) ∧ (∀ i j a b : Nat, i < j → zs[i]? = some a → zs[j]? = some b → ¬ key b < key a) ∧ Sl w' 3 1 (some ⟨blk, 0, none⟩) m cap [blk] (zs.map nI) ∧ Upd [blk] w w' := by
  have K : Hid (∀ lim : Int, Calls Ybaz.prog 97 #[.slice (some ⟨blk, 0, none⟩) m cap, .int .i64 0, .int .i64 m, .int .i64 lim, .func (.func 77) #[] cb] w fun e w' => e = .returned (.tuple #[]) ∧
      ∃ zs : List Nat, zs.Perm (List.range m) ∧ (∀ i j a b : Nat, i < j → zs[i]? = some a → zs[j]? = some b → ¬ key b < key a) ∧ Sl w' 3 1 (some ⟨blk, 0, none⟩) m cap [blk] (zs.map nI) ∧ Upd [blk] w w') := fun lim => pdq97 m hm key w blk cap lim cb hS hcm
  clear hS hcm
  go_enter Ybaz.func68, Ybaz.ntmps68
  go_wp2_with fail
  refine (len64 m (by omega) w).mono ?_
  rintro e w1 ⟨l, hl, rfl, rfl⟩
  go_wp2_with fail
  refine (K.out _).mono ?_
  rintro e w' ⟨rfl, zs, q1, q2, q3, q4⟩
  have Q : Hid (zs.Perm (List.range m) ∧ (∀ i j a b : Nat, i < j → zs[i]? = some a → zs[j]? = some b → ¬ key b < key a) ∧ Sl w' 3 1 (some ⟨blk, 0, none⟩) m cap [blk] (zs.map nI) ∧ Upd [blk] w1 w') := ⟨q1, q2, q3, q4⟩
  clear q1 q2 q3 q4
  go_wp2_with fail
  go_end0
  exact ⟨rfl, zs, Q.out⟩
set_option maxRecDepth 100000 in
theorem max78 (w : World) (b c : Nat) (xs : List Nat) (hx : xs ≠ []) (hl : xs.length < 1000) (key : Nat → Nat) (cb : Array Value) (hc : ∀ (j x : Nat), xs[j]? = some x → w.cell? ⟨b, j, none⟩ = some (.int .i64 x))
    (hcm : ∀ q x y, x ∈ xs → y ∈ xs → Calls Ybaz.prog 76 (#[.int .i64 x, .int .i64 y] ++ cb) (w.drewN q) fun e w' => e = .returned (.int .i64 (cmpZ (key x) (key y))) ∧ ∃ r, w' = (w.drewN q).drewN r) :
    Calls Ybaz.prog 78 #[.slice (some ⟨b, 0, none⟩) xs.length c, .func (.func 76) #[] cb] w fun e w' => ∃ x, x ∈ xs ∧ (∀ y ∈ xs, key y ≤ key x) ∧ e = .returned (.int .i64 x) ∧ ∃ q, w' = w.drewN q := by
  have HC : Hid (∀ (j x : Nat), xs[j]? = some x → w.cell? ⟨b, j, none⟩ = some (.int .i64 x)) := hc
  have HM : Hid (∀ q x y, x ∈ xs → y ∈ xs → Calls Ybaz.prog 76 (#[.int .i64 x, .int .i64 y] ++ cb) (w.drewN q) fun e w' => e = .returned (.int .i64 (cmpZ (key x) (key y))) ∧ ∃ r, w' = (w.drewN q).drewN r) := hcm
  have h1 : 1 ≤ xs.length := by cases xs with | nil => exact absurd rfl hx | cons a r => simp
  obtain ⟨x0, hx0⟩ := has_at xs (k := 0) (by omega)
  have c0 := hc 0 x0 hx0
  have X0 : Hid (xs[0]? = some x0) := hx0
  clear hc hcm hx hx0
  go_enter Ybaz.func78, Ybaz.ntmps78
  go_wp2_with fail
  go_loopw [5, 6] (fun t5 t6 wr => ∃ i x q : Nat, i ≤ xs.length ∧ t6 = .int .i64 i ∧ t5 = .int .i64 x ∧ x ∈ xs ∧ (∀ y ∈ xs.take i, key y ≤ key x) ∧ wr = w.drewN q) (fun _ u _ => xs.length - (intOf u).toNat)
  case atStart =>
    refine ⟨1, x0, 0, by omega, rfl, rfl, List.mem_of_getElem? X0.out, fun y hy => ?_, rfl⟩
    obtain ⟨j, hj⟩ := List.getElem?_of_mem hy
    rw [List.getElem?_take] at hj
    split at hj
    · rename_i hlt
      have : j = 0 := by omega
      subst this
      rw [X0.out] at hj; cases hj; exact Nat.le_refl _
    · cases hj
  case round =>
    obtain ⟨i, x, q, hi, rfl, rfl, hxm, hy, rfl⟩ := hrel
    have HY : Hid (∀ y ∈ xs.take i, key y ≤ key x) := hy
    have XM : Hid (x ∈ xs) := hxm
    clear hy hxm
    by_cases hlt : i < xs.length
    · obtain ⟨z, hz⟩ := has_at xs hlt
      have cz : (w.drewN q).cell? ⟨b, i, none⟩ = some (.int .i64 z) := HC.out i z hz
      have hK : Hid (Calls Ybaz.prog 76 (#[.int .i64 z, .int .i64 x] ++ cb) (w.drewN q) fun e w' => e = .returned (.int .i64 (cmpZ (key z) (key x))) ∧ ∃ r, w' = (w.drewN q).drewN r) := HM.out q z x (List.mem_of_getElem? hz) XM.out
      have HZ : Hid (xs[i]? = some z) := hz
      clear hz
      go_wp2_with fail
      refine hK.out.mono ?_
      rintro e w1 ⟨rfl, r, rfl⟩
      rw [World.drewN_drewN]
      have cz2 : (w.drewN (q + r)).cell? ⟨b, i, none⟩ = some (.int .i64 z) := cz
      by_cases hk : key x < key z
      · have hcz : cmpZ (key z) (key x) = 1 := by unfold cmpZ; split <;> (try split) <;> omega
        rw [hcz]
        go_wp2_with fail
        refine ⟨⟨i + 1, z, q + r, by omega, by go_num, rfl, List.mem_of_getElem? HZ.out, fun y hy => ?_, rfl⟩, by simp [intOf]; omega⟩
        rw [take_snoc' HZ.out] at hy
        rcases List.mem_append.mp hy with hy | hy
        · have := HY.out y hy; omega
        · simp at hy; rw [hy]; exact Nat.le_refl _
      · have hcz : cmpZ (key z) (key x) ≤ 0 := by unfold cmpZ; split <;> (try split) <;> omega
        have hcz2 : ¬ (0 : Int) < cmpZ (key z) (key x) := by omega
        have hcz3 : decide ((0 : Int) < cmpZ (key z) (key x)) = false := by simp [hcz2]
        generalize cmpZ (key z) (key x) = cz0 at *
        go_wp2_with fail
        refine ⟨⟨i + 1, x, q + r, by omega, by go_num, rfl, XM.out, fun y hy => ?_, rfl⟩, by simp [intOf]; omega⟩
        rw [take_snoc' HZ.out] at hy
        rcases List.mem_append.mp hy with hy | hy
        · exact HY.out y hy
        · simp at hy; rw [hy]; omega
    · have hi2 : i = xs.length := by omega
      go_wp2_with fail
      go_ret
      refine ⟨x, XM.out, fun y hy => HY.out y ?_, rfl, q, rfl⟩
      rw [hi2, List.take_length]; exact hy
set_option maxRecDepth 100000 in
theorem bin79 (w : World) (b c : Nat) (xs : List Nat) (hl : xs.length < 1000) (key : Nat → Nat) (x : Nat) (cb : Array Value) (hc : ∀ (j z : Nat), xs[j]? = some z → w.cell? ⟨b, j, none⟩ = some (.int .i64 z))
    (hso : ∀ i j a b : Nat, i < j → xs[i]? = some a → xs[j]? = some b → ¬ key b < key a)
    (hcm : ∀ q z, z ∈ xs → Calls Ybaz.prog 80 (#[.int .i64 z, .int .i64 x] ++ cb) (w.drewN q) fun e w' => e = .returned (.int .i64 (cmpZ (key z) x)) ∧ ∃ r, w' = (w.drewN q).drewN r) :
    Calls Ybaz.prog 79 #[.slice (some ⟨b, 0, none⟩) xs.length c, .int .i64 x, .func (.func 80) #[] cb] w fun e w' => ∃ (i : Nat) (f : Bool), i ≤ xs.length ∧ (∀ j z, j < i → xs[j]? = some z → key z < x) ∧ (∀ j z, i ≤ j → xs[j]? = some z → x ≤ key z) ∧ e = .returned (.tuple #[.int .i64 i, .bool f]) ∧ ∃ q, w' = w.drewN q := by
  have HC : Hid (∀ (j x : Nat), xs[j]? = some x → w.cell? ⟨b, j, none⟩ = some (.int .i64 x)) := hc
  have HM : Hid (∀ q z, z ∈ xs → Calls Ybaz.prog 80 (#[.int .i64 z, .int .i64 x] ++ cb) (w.drewN q) fun e w' => e = .returned (.int .i64 (cmpZ (key z) x)) ∧ ∃ r, w' = (w.drewN q).drewN r) := hcm
  have HS : Hid (∀ i j a b : Nat, i < j → xs[i]? = some a → xs[j]? = some b → ¬ key b < key a) := hso
  clear hc hcm hso
  go_enter Ybaz.func79, Ybaz.ntmps79
  go_wp2_with fail
  go_loopw [9, 10] (fun t9 t10 wr => ∃ i j q : Nat, t9 = .int .i64 i ∧ t10 = .int .i64 j ∧ i ≤ j ∧ j ≤ xs.length ∧ (∀ k z, k < i → xs[k]? = some z → key z < x) ∧ (∀ k z, j ≤ k → xs[k]? = some z → x ≤ key z) ∧ wr = w.drewN q) (fun u v _ => (intOf v - intOf u).toNat)
  case atStart => exact ⟨0, xs.length, 0, rfl, rfl, by omega, by omega, fun k z h => by omega, fun k z h h2 => by have := (List.getElem?_eq_some_iff.mp h2).1; omega, rfl⟩
  case round =>
    obtain ⟨i, j, q, rfl, rfl, h1, h2, lo, hi, rfl⟩ := hrel
    have LO : Hid (∀ k z, k < i → xs[k]? = some z → key z < x) := lo
    have HI : Hid (∀ k z, j ≤ k → xs[k]? = some z → x ≤ key z) := hi
    clear lo hi
    by_cases hlt : i < j
    · have hm1 : (i + j) / 2 < xs.length := by omega
      obtain ⟨z, hz⟩ := has_at xs hm1
      have cz : (w.drewN q).cell? ⟨b, (i + j) / 2, none⟩ = some (.int .i64 z) := HC.out _ z hz
      have hK : Hid (Calls Ybaz.prog 80 (#[.int .i64 z, .int .i64 x] ++ cb) (w.drewN q) fun e w' => e = .returned (.int .i64 (cmpZ (key z) x)) ∧ ∃ r, w' = (w.drewN q).drewN r) := HM.out q z (List.mem_of_getElem? hz)
      have HZ : Hid (xs[(i + j) / 2]? = some z) := hz
      clear hz
      go_wp2_with fail
      refine hK.out.mono ?_
      rintro e w1 ⟨rfl, r, rfl⟩
      rw [World.drewN_drewN]
      by_cases hk : key z < x
      · have hcz : cmpZ (key z) x = -1 := by unfold cmpZ; split <;> omega
        rw [hcz]
        go_wp2_with fail
        refine ⟨⟨(i + j) / 2 + 1, j, q + r, by go_num, rfl, by omega, by omega, fun k z' h h' => ?_, HI.out, rfl⟩, by simp [intOf] <;> omega⟩
        by_cases e : k = (i + j) / 2
        · subst e; rw [HZ.out] at h'; cases h'; exact hk
        · have := HS.out k ((i + j) / 2) z' z (by omega) h' HZ.out; omega
      · have hcz : 0 ≤ cmpZ (key z) x := by unfold cmpZ; split <;> (try split) <;> omega
        have hcz2 : ¬ cmpZ (key z) x < (0 : Int) := by omega
        generalize cmpZ (key z) x = cz0 at *
        go_wp2_with fail
        refine ⟨⟨i, (i + j) / 2, q + r, rfl, by go_num, by omega, by omega, LO.out, fun k z' h h' => ?_, rfl⟩, by simp [intOf] <;> omega⟩
        by_cases e : k = (i + j) / 2
        · subst e; rw [HZ.out] at h'; cases h'; omega
        · have := HS.out ((i + j) / 2) k z z' (by omega) HZ.out h'; omega
    · have e : i = j := by omega
      subst e
      by_cases hin : i < xs.length
      · obtain ⟨z, hz⟩ := has_at xs hin
        have cz : (w.drewN q).cell? ⟨b, i, none⟩ = some (.int .i64 z) := HC.out _ z hz
        have hK : Hid (Calls Ybaz.prog 80 (#[.int .i64 z, .int .i64 x] ++ cb) (w.drewN q) fun e w' => e = .returned (.int .i64 (cmpZ (key z) x)) ∧ ∃ r, w' = (w.drewN q).drewN r) := HM.out q z (List.mem_of_getElem? hz)
        clear hz
        go_wp2_with fail
        refine hK.out.mono ?_
        rintro e w1 ⟨rfl, r, rfl⟩
        rw [World.drewN_drewN]
        generalize cmpZ (key z) x = cz0 at *
        go_wp2_with fail
        go_ret2
        exact ⟨i, _, by omega, LO.out, HI.out, rfl, _, rfl⟩
      · go_wp2_with fail
        go_ret2
        exact ⟨i, _, by omega, LO.out, HI.out, rfl, _, rfl⟩
end Go.Proofs.YbulkctquGreatFmt

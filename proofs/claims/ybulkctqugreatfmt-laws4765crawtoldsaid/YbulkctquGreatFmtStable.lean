/-
  slices.SortStableFunc at []int, 12 elements or fewer: by the shelf's insertionSortCmpFunc.
-/
import Derived.Test.YbulkctquGreatFmtCmps
import Derived.Test.YbulkctquGreatFmtTexts
import Derived.Shelf.Lay
import Derived.Shelf.SlSortCmp.Insertion1
import Derived.Ground.SlsfProg
namespace Go.Proofs.YbulkctquGreatFmt
open Go.ChangeShapes Go.WideShapes Go.ChangeAt Go.RowKit Go.Ord
set_option linter.unusedVariables false

/-- What a sort of a row leaves of the world. -/
theorem sl_put {α : Type} [Inhabited α] {w : World} {e : TypeId} {m cap g : Nat} {xs : List Value} (h : Sl w e 1 (some ⟨g, 0, none⟩) m cap [g] xs) (enc : α → Value) (d : Array α) (hd : d.size = m) (n : Nat) (os : Array Obj) :
    Sl (Sort.grow (Sort.putRow enc (Sort.ahead w n) g 0 d) os) e 1 (some ⟨g, 0, none⟩) m cap [g] (d.toList.map enc) ∧ Upd [g] w (Sort.grow (Sort.putRow enc (Sort.ahead w n) g 0 d) os) := by
  rcases h.lies with ⟨h1, _⟩ | ⟨g', cur, h1, h2, h3, h4, h5, h6, h7⟩
  · cases h1
  · injection h1 with h1
    injection h1 with h1
    subst h1
    have hz : (Sort.putRow enc (Sort.ahead w n) g 0 d).heap.size = w.heap.size := by simp [Sort.putRow, Sort.mapBlock, Sort.ahead]
    have hg : g < w.heap.size := h3.lt
    have hb : (Sort.grow (Sort.putRow enc (Sort.ahead w n) g 0 d) os).heap[g]? = some (.cells (Sort.putCells enc 0 d cur) e (0, 0)) := by
      rw [Sort.heap_grow_old _ _ (by omega)]
      unfold Blk at h3
      simp [Sort.putRow, Sort.mapBlock, Sort.ahead, Array.getElem?_modify, h3, Sort.onCells]
    refine ⟨⟨by simp [hd], .inr ⟨g, _, rfl, rfl, hb, h4, h5, by simp [Sort.putCells, h6], ?_⟩⟩, ⟨rfl, rfl, rfl, by simp [hz], ?_⟩⟩
    · apply List.ext_getElem?
      intro j
      rw [List.getElem?_take]
      by_cases hj : j < m * 1
      · rw [if_pos hj]
        have hj2 : j < d.size := by omega
        have hj3 : j < cur.size := by rw [h6]; omega
        simp [Sort.putCells, hj2, hj3]
      · rw [if_neg hj, List.getElem?_eq_none (by simp; omega)]
    · intro k hk hn
      rw [Sort.heap_grow_old _ _ (by omega)]
      have : g ≠ k := by intro e; subst e; simp at hn
      simp [Sort.putRow, Sort.mapBlock, Sort.ahead, Array.getElem?_modify, this]

shelf_lay_g SlLaysF.n20 Slsf 20 at Ybaz 93 as Ybaz.insC

def bN (b : Bool) : Nat := if b then 1 else 0
/-- The order in which the transactions are numbered. -/
def Rk.lt (a b : Rk) : Prop := bN a.t < bN b.t ∨ bN a.t = bN b.t ∧ (a.g < b.g ∨ a.g = b.g ∧ bN (!a.w) < bN (!b.w))
theorem cmpZ_neg (x y : Int) : cmpZ x y < 0 ↔ x < y := by unfold cmpZ; split <;> (try split) <;> omega
theorem bR_bN (b : Bool) : bR b = bN b := by cases b <;> rfl
theorem bN_inj (a b : Bool) : bN a = bN b ↔ a = b := by cases a <;> cases b <;> simp [bN]
theorem Rk.cmp_lt (a b : Rk) : a.cmp b < 0 ↔ a.lt b := by
  unfold Rk.cmp Rk.lt
  have h := bN_inj a.t b.t
  split
  · rename_i h1
    rw [cmpZ_neg, bR_bN, bR_bN]
    have h3 : bN a.t ≠ bN b.t := fun e => h1 (h.1 e)
    omega
  · rename_i h1
    simp only [ne_eq, Decidable.not_not] at h1
    have h2 := h.2 h1
    split
    · rw [cmpZ_neg]; omega
    · rw [cmpZ_neg, bR_bN, bR_bN]; omega
theorem Rk.swo {m : Nat} (R : Fin m → Rk) : Sort.SWO (ltOf fun x y => (R x).cmp (R y)) := by
  have e : ∀ x y, ltOf (fun x y => (R x).cmp (R y)) x y = true ↔ (R x).lt (R y) := fun x y => by
    simp only [ltOf, decide_eq_true_eq]; exact Rk.cmp_lt _ _
  have f : ∀ x y, ltOf (fun x y => (R x).cmp (R y)) x y = false ↔ ¬ (R x).lt (R y) := fun x y => by
    rw [← e, Bool.not_eq_true]
  refine ⟨fun x => ?_, fun x y z h1 h2 => ?_, fun x y z h1 h2 => ?_⟩
  · rw [f]; unfold Rk.lt; omega
  · rw [e] at *; unfold Rk.lt at *; omega
  · rw [f] at *; unfold Rk.lt at *; omega

theorem ins93 (k : Nat) (R : Fin (k + 1) → Rk) (w : World) (blk cap bx C capC : Nat) (hk : k < 12) (d : Array (Fin (k + 1))) (hd : d.size = k + 1)
    (hS : Sl w 3 1 (some ⟨blk, 0, none⟩) (k + 1) cap [blk] (d.toList.map fun t => nI t.val)) (hc : w.cell? ⟨bx, 0, none⟩ = some (.slice (some ⟨C, 0, none⟩) (k + 1) capC))
    (hR : ∀ (i : Fin (k + 1)) j v, (R i).cells[j]? = some v → w.cell? ⟨C, i.val * 5 + j, none⟩ = some v) (h1 : bx ≠ blk) (h2 : C ≠ blk) :
    Calls Ybaz.prog 93 #[.slice (some ⟨blk, 0, none⟩) ((k + 1 : Nat)) cap, .int .i64 0, .int .i64 ((k + 1 : Nat) : Int), .func (.func 32) #[] #[.pointer (some ⟨bx, 0, none⟩)]] w fun e w' => e = .returned (.tuple #[]) ∧
      ∃ d' : Array (Fin (k + 1)), d'.size = k + 1 ∧ d'.toList.Perm d.toList ∧ (∀ i j, i < j → j < k + 1 → ¬ (R d'[j]!).lt (R d'[i]!)) ∧ Sl w' 3 1 (some ⟨blk, 0, none⟩) (k + 1) cap [blk] (d'.toList.map fun t => nI t.val) ∧ Upd [blk] w w' := by
  obtain ⟨g, hg, _, hlt, hcell, hfree⟩ := hS.has (by omega)
  injection hg with hg
  injection hg with hg
  subst hg
  have hH : Sort.Holds (fun t : Fin (k + 1) => nI t.val) w blk 0 d := by
    intro j hj
    refine ⟨?_, by rw [Nat.zero_add]; exact hfree j⟩
    rw [Nat.zero_add, hcell j (by omega)]
    simp [hj]
  have hcmp : CmpLays1 Ybaz.prog 32 #[.pointer (some ⟨bx, 0, none⟩)] (fun t : Fin (k + 1) => nI t.val) (fun x y => (R x).cmp (R y)) blk 0 d.size w := by
    intro n os dk hdk x y
    have u := (sl_put hS (fun t : Fin (k + 1) => nI t.val) dk (by omega) n os).2
    exact cmp32 _ bx C (k + 1) capC x.val y.val (R x) (R y) (by omega) x.isLt y.isLt (u.cell hc (by simpa using h1)) (fun j v hv => u.cell (hR x j v hv) (by simpa using h2)) (fun j v hv => u.cell (hR y j v hv) (by simpa using h2))
  have key := Any.insertionSortCmpFunc_s Ybaz.insC (fun t : Fin (k + 1) => nI t.val) (fun x y => (R x).cmp (R y)) 32 #[.pointer (some ⟨bx, 0, none⟩)] blk 0 cap 0 (k + 1) d d w w
    (enters_of Ybaz.func32 (by kernel_rfl) rfl) hcmp ⟨fun x => rfl, hH, hlt⟩ rfl (SW.start hH) (by omega) (by omega) (by omega)
  rw [hd] at key
  refine Calls.mono key ?_
  rintro e w' ⟨rfl, n, os, rfl⟩
  have h := Sort.insertionSort_holds (lt := ltOf fun x y => (R x).cmp (R y)) (Rk.swo R) d 0 (k + 1) (by omega) (by omega)
  obtain ⟨⟨p1, p2, p3⟩, p4⟩ := h
  have q := sl_put hS (fun t : Fin (k + 1) => nI t.val) (Sort.insertionSort (ltOf fun x y => (R x).cmp (R y)) d 0 (k + 1)) (by omega) n os
  refine ⟨rfl, _, by omega, ?_, ?_, q.1, q.2⟩
  · have e1 : ∀ a : Array (Fin (k + 1)), a.size = k + 1 → a.extract 0 (k + 1) = a := fun a ha => by apply Array.ext'; simp [List.take_of_length_le, ha]
    rw [e1 _ hd, e1 _ (by omega)] at p3
    exact p3
  · intro i j hij hj
    have := p4 i j (by omega) hij hj
    rw [← Rk.cmp_lt]
    simpa [ltOf] using this

theorem ins93_0 (w : World) (blk cap : Nat) (f : Value) : Calls Ybaz.prog 93 #[.slice (some ⟨blk, 0, none⟩) 0 cap, .int .i64 0, .int .i64 0, f] w fun e w' => e = .returned (.tuple #[]) ∧ w' = w := by
  go_enter Ybaz.func93, Ybaz.ntmps93
  go_wp2_with fail
  refine wp_loop_once ?_
  go_wp2_with fail
  go_end0
  exact ⟨rfl, rfl⟩

/-- What the stable sort leaves, m numbers in the order of R. -/
def Sorted (R : List Rk) (zs : List Nat) : Prop := ∀ (i j a b : Nat) (ra rb : Rk), i < j → zs[i]? = some a → zs[j]? = some b → R[a]? = some ra → R[b]? = some rb → ¬ rb.lt ra

theorem stable56 (m : Nat) (hm : m ≤ 12) (R : List Rk) (hl : R.length = m) (w : World) (blk cap bx capC : Nat) (aC : Option Addr)
    (hS : Sl w 3 1 (some ⟨blk, 0, none⟩) m cap [blk] ((List.range m).map nI)) (hc : w.cell? ⟨bx, 0, none⟩ = some (.slice aC m capC))
    (hR : 0 < m → ∃ C, aC = some ⟨C, 0, none⟩ ∧ C ≠ blk ∧ ∀ i r j v, R[i]? = some r → r.cells[j]? = some v → w.cell? ⟨C, i * 5 + j, none⟩ = some v) (h1 : bx ≠ blk) :
    Calls Ybaz.prog 56 #[.slice (some ⟨blk, 0, none⟩) m cap, .int .i64 m, .func (.func 32) #[] #[.pointer (some ⟨bx, 0, none⟩)]] w fun e w' => e = .returned (.tuple #[]) ∧
      ∃ zs : List Nat, zs.Perm (List.range m) ∧ Sorted R zs ∧ Sl w' 3 1 (some ⟨blk, 0, none⟩) m cap [blk] (zs.map nI) ∧ Upd [blk] w w' := by
  have K : Hid (Calls Ybaz.prog 93 #[.slice (some ⟨blk, 0, none⟩) m cap, .int .i64 0, .int .i64 m, .func (.func 32) #[] #[.pointer (some ⟨bx, 0, none⟩)]] w fun e w' => e = .returned (.tuple #[]) ∧
      ∃ zs : List Nat, zs.Perm (List.range m) ∧ Sorted R zs ∧ Sl w' 3 1 (some ⟨blk, 0, none⟩) m cap [blk] (zs.map nI) ∧ Upd [blk] w w') := by
    cases m with
    | zero =>
      refine Calls.mono (ins93_0 w blk cap _) ?_
      rintro e w' ⟨rfl, rfl⟩
      exact ⟨rfl, [], by simp, fun i j a b ra rb _ h => by simp at h, by simpa using hS, Upd.refl _ _⟩
    | succ k =>
      obtain ⟨C, rfl, hC, hcells⟩ := hR (by omega)
      have hd : (Array.ofFn (n := k + 1) id).size = k + 1 := by simp
      have e0 : (Array.ofFn (n := k + 1) id).toList.map (fun t : Fin (k + 1) => t.val) = List.range (k + 1) := by
        apply List.ext_getElem?
        intro j
        by_cases hj : j < k + 1
        · rw [List.getElem?_range hj, List.getElem?_map, List.getElem?_eq_getElem (by simpa using hj)]
          simp only [Option.map_some, Array.getElem_toList, Array.getElem_ofFn, id]
        · simp [hj]
      have e1 : (Array.ofFn (n := k + 1) id).toList.map (fun t : Fin (k + 1) => nI t.val) = (List.range (k + 1)).map nI := by
        rw [← e0, List.map_map]; rfl
      refine Calls.mono (ins93 k (fun i => R[i.val]'(by omega)) w blk cap bx C capC (by omega) (Array.ofFn id) hd (by rw [e1]; exact hS) hc (fun i j v hv => hcells i.val _ j v (List.getElem?_eq_getElem _) hv) h1 hC) ?_
      rintro e w' ⟨rfl, d', q1, q2, q3, q4, q5⟩
      refine ⟨rfl, d'.toList.map (fun t => t.val), ?_, ?_, by rw [List.map_map]; exact q4, q5⟩
      · have := q2.map (fun t : Fin (k + 1) => t.val)
        rw [e0] at this
        exact this
      · intro i j a b ra rb hij ha hb hra hrb
        have hj : j < k + 1 := by
          have := (List.getElem?_eq_some_iff.mp hb).1
          simp at this; omega
        have := q3 i j hij hj
        have f : ∀ t c, t < k + 1 → (d'.toList.map (fun t => t.val))[t]? = some c → ∀ rc, R[c]? = some rc → R[(d'[t]!).val]'(by have := (d'[t]!).isLt; omega) = rc := by
          intro t c ht h0 rc hrc
          have e2 : d'[t]! = d'[t]'(by omega) := getElem!_pos d' t (by omega)
          simp only [List.getElem?_map, Array.getElem?_toList, Array.getElem?_eq_getElem (show t < d'.size by omega), Option.map_some, Option.some.injEq] at h0
          subst h0
          have e3 := (List.getElem?_eq_some_iff.mp hrc).2
          rw [← e3]
          congr 1
          rw [e2]
        rw [f i a (by omega) ha ra hra, f j b hj hb rb hrb] at this
        exact this
  clear hS hc hR
  go_enter Ybaz.func56, Ybaz.ntmps56
  go_wp2_with fail
  refine wp_loop_once ?_
  go_wp2_with fail
  refine K.out.mono ?_
  rintro e w' ⟨rfl, zs, q1, q2, q3, q4⟩
  have Q : Hid (zs.Perm (List.range m) ∧ Sorted R zs ∧ Sl w' 3 1 (some ⟨blk, 0, none⟩) m cap [blk] (zs.map nI) ∧ Upd [blk] w w') := ⟨q1, q2, q3, q4⟩
  clear q1 q2 q3 q4
  go_wp2_with fail
  refine wp_loop_once ?_
  go_wp2_with fail
  go_end0
  exact ⟨rfl, zs, Q.out⟩
theorem stable31 (m : Nat) (hm : m ≤ 12) (R : List Rk) (hl : R.length = m) (w : World) (blk cap bx capC : Nat) (aC : Option Addr)
    (hS : Sl w 3 1 (some ⟨blk, 0, none⟩) m cap [blk] ((List.range m).map nI)) (hc : w.cell? ⟨bx, 0, none⟩ = some (.slice aC m capC))
    (hR : 0 < m → ∃ C, aC = some ⟨C, 0, none⟩ ∧ C ≠ blk ∧ ∀ i r j v, R[i]? = some r → r.cells[j]? = some v → w.cell? ⟨C, i * 5 + j, none⟩ = some v) (h1 : bx ≠ blk) :
    Calls Ybaz.prog 31 #[.slice (some ⟨blk, 0, none⟩) m cap, .func (.func 32) #[] #[.pointer (some ⟨bx, 0, none⟩)]] w fun e w' => e = .returned (.tuple #[]) ∧
      ∃ zs : List Nat, zs.Perm (List.range m) ∧ Sorted R zs ∧ Sl w' 3 1 (some ⟨blk, 0, none⟩) m cap [blk] (zs.map nI) ∧ Upd [blk] w w' := by
  have HS : Hid _ := hS
  have HC : Hid _ := hc
  have HR : Hid _ := hR
  clear hS hc hR
  go_enter Ybaz.func31, Ybaz.ntmps31
  go_wp2_with fail
  refine (stable56 m hm R hl w blk cap bx capC aC HS.out HC.out HR.out h1).mono ?_
  rintro e w' ⟨rfl, zs, q1, q2, q3, q4⟩
  have Q : Hid (zs.Perm (List.range m) ∧ Sorted R zs ∧ Sl w' 3 1 (some ⟨blk, 0, none⟩) m cap [blk] (zs.map nI) ∧ Upd [blk] w w') := ⟨q1, q2, q3, q4⟩
  clear q1 q2 q3 q4
  go_wp2_with fail
  go_end0
  exact ⟨rfl, zs, Q.out⟩
end Go.Proofs.YbulkctquGreatFmt

/-
  The walks of tidelock.LawS4771ASplit.
-/
import Derived.Test.YbulkctuaFmtParts
import Derived.LaidEql
namespace Go.Proofs.YbulkctuaFmt
open Go.ChangeShapes Go.WideShapes Go.ChangeAt Go.RowKit Go.Extern.Stop Go.Stop Go.Extern
set_option linter.unusedVariables false

theorem u32_short_held (d : Nat) (off : Int) (what : ByteArray) (t : TypeId) (v : Value) (ao : Option Addr) (len cap : Nat) (w : World) (hl : len < 4) (hwh : what.size ≤ 1000)
    (h0 : w.cell? ⟨d, 0, none⟩ = some (.slice ao len cap)) (h1 : w.cell? ⟨d, 1, none⟩ = some (.int .i64 off)) (h2 : w.cell? ⟨d, 2, none⟩ = some (.iface t v)) (f0 : w.frozen? ⟨d, 0, none⟩ = false) :
    Calls Ybaf.prog 10 #[.pointer (some ⟨d, 0, none⟩), .string what] w fun e w' => e = .returned (.int .u32 0) ∧ w' = w.setCell ⟨d, 0, none⟩ (.slice none 0 0) := by
  have r := r22
  go_enter Ybaf.func10, Ybaf.ntmps10
  go_wp2_with (go_at_call 18; refine (bytes_short_held d 4 off what t v ao len cap _ (by omega) hl hwh h0 h1 h2 f0).mono ?_; rintro e w' ⟨rfl, rfl⟩)
  go_ret
  exact ⟨rfl, rfl⟩

theorem u32_short_new (d : Nat) (off : Int) (what : ByteArray) (ao : Option Addr) (len cap : Nat) (w : World) (hl : len < 4) (hwh : what.size ≤ 1000)
    (h0 : w.cell? ⟨d, 0, none⟩ = some (.slice ao len cap)) (h1 : w.cell? ⟨d, 1, none⟩ = some (.int .i64 off)) (h2 : w.cell? ⟨d, 2, none⟩ = some .nilIface) (f0 : w.frozen? ⟨d, 0, none⟩ = false) (f2 : w.frozen? ⟨d, 2, none⟩ = false) :
    Calls Ybaf.prog 10 #[.pointer (some ⟨d, 0, none⟩), .string what] w fun e w' => e = .returned (.int .u32 0) ∧ ∃ t s, w' = ((((w.setCell ⟨d, 2, none⟩ (.iface 78 (.pointer (some ⟨w.heap.size + 1, 0, none⟩)))).setCell ⟨d, 0, none⟩ (.slice none 0 0)).alloc (.cells #[.iface 3 (.int .i64 off), .iface 9 (.string s)] 20)).alloc (.cells #[.string t] 80)).drew := by
  have r := r22
  go_enter Ybaf.func10, Ybaf.ntmps10
  go_wp2_with (go_at_call 18; refine (bytes_short_new d 4 off what ao len cap _ (by omega) hl hwh h0 h1 h2 f0 f2).mono ?_; rintro e w' ⟨rfl, t, s, rfl⟩)
  go_ret
  exact ⟨rfl, t, s, rfl⟩

/-! ### The same, told by the decoder's block. -/
theorem cell_of {W : World} {b : Nat} {c : Array Value} {t : TypeId} (h : W.heap[b]? = some (.cells c t (0, 0))) (j : Nat) : W.cell? ⟨b, j, none⟩ = c[j]? := by
  simp [World.cell?, h]
theorem free_of {W : World} {b : Nat} {c : Array Value} {t : TypeId} (h : W.heap[b]? = some (.cells c t (0, 0))) (j : Nat) : W.frozen? ⟨b, j, none⟩ = false := by
  simp [World.frozen?, h]
theorem set_of {W : World} {b : Nat} {c : Array Value} {t : TypeId} (h : W.heap[b]? = some (.cells c t (0, 0))) (j : Nat) (v : Value) : (W.setCell ⟨b, j, none⟩ v).heap[b]? = some (.cells (c.setIfInBounds j v) t (0, 0)) := by
  simp [World.setCell, Array.getElem?_modify, h]
theorem lt_of_heap {w : World} {k : Nat} {o : Obj} (h : w.heap[k]? = some o) : k < w.heap.size := by
  rcases Nat.lt_or_ge k w.heap.size with h' | h'
  · exact h'
  · rw [Array.getElem?_eq_none h'] at h; cases h
theorem heap_alloc_lt {w : World} {k : Nat} {o x : Obj} (h : w.heap[k]? = some o) : (w.alloc x).heap[k]? = some o := by
  rw [Below.heap_alloc _ _ _ (lt_of_heap h)]; exact h

/-- The decoder's block. -/
def Dec (w : World) (d : Nat) (b : Value) (off : Int) (err : Value) : Prop := w.heap[d]? = some (.cells #[b, .int .i64 off, err, .int .i64 0] 29 (0, 0))

theorem short_world {w : World} {d : Nat} {b : Value} {off : Int} {err : Value} (h : Dec w d b off err) : Dec (w.setCell ⟨d, 0, none⟩ (.slice none 0 0)) d (.slice none 0 0) off err ∧ w.grownBy (w.setCell ⟨d, 0, none⟩ (.slice none 0 0)) (some d) := by
  refine ⟨set_of h 0 _, ⟨rfl, rfl, rfl, by simp [World.setCell], fun k hk hne => Below.heap_setCell _ _ _ _ (fun e => hne (by rw [e]))⟩⟩

theorem new_world {w : World} {d : Nat} {b : Value} {off : Int} {err : Value} (h : Dec w d b off err) (x : Value) (o1 o2 : Obj) : Dec ((((w.setCell ⟨d, 2, none⟩ x).setCell ⟨d, 0, none⟩ (.slice none 0 0)).alloc o1).alloc o2).drew d (.slice none 0 0) off x ∧ w.grownBy ((((w.setCell ⟨d, 2, none⟩ x).setCell ⟨d, 0, none⟩ (.slice none 0 0)).alloc o1).alloc o2).drew (some d) := by
  have h1 := set_of (set_of h 2 x) 0 (.slice none 0 0)
  refine ⟨heap_alloc_lt (heap_alloc_lt h1), ⟨rfl, rfl, rfl, by simp [World.setCell]; omega, fun k hk hne => ?_⟩⟩
  have hkd : k ≠ d := fun e => hne (by rw [e])
  show ((((w.setCell ⟨d, 2, none⟩ x).setCell ⟨d, 0, none⟩ (.slice none 0 0)).alloc o1).alloc o2).heap[k]? = _
  rw [Below.heap_alloc _ _ _ (by simp [World.setCell]; omega), Below.heap_alloc _ _ _ (by simp [World.setCell]; omega), Below.heap_setCell _ _ _ _ hkd, Below.heap_setCell _ _ _ _ hkd]

theorem ok_world {w : World} {d : Nat} {b : Value} {off : Int} {err : Value} (h : Dec w d b off err) (x : Value) (n : Int) (o1 : Obj) (q : Nat) : Dec (((((w.setCell ⟨d, 0, none⟩ x).setCell ⟨d, 1, none⟩ (.int .i64 n)).alloc o1)).drewN q) d x n err ∧ w.grownBy (((((w.setCell ⟨d, 0, none⟩ x).setCell ⟨d, 1, none⟩ (.int .i64 n)).alloc o1)).drewN q) (some d) := by
  have h1 := set_of (set_of h 0 x) 1 (.int .i64 n)
  refine ⟨heap_alloc_lt h1, ⟨rfl, rfl, rfl, by simp [World.setCell], fun k hk hne => ?_⟩⟩
  have hkd : k ≠ d := fun e => hne (by rw [e])
  show (((w.setCell ⟨d, 0, none⟩ x).setCell ⟨d, 1, none⟩ (.int .i64 n)).alloc o1).heap[k]? = _
  rw [Below.heap_alloc _ _ _ (by simp [World.setCell]; omega), Below.heap_setCell _ _ _ _ hkd, Below.heap_setCell _ _ _ _ hkd]

theorem u64B_short (d : Nat) (off : Int) (what : ByteArray) (ao : Option Addr) (len cap : Nat) (w : World) (hl : len < 8) (hwh : what.size ≤ 1000) (h : Dec w d (.slice ao len cap) off .nilIface) :
    Calls Ybaf.prog 9 #[.pointer (some ⟨d, 0, none⟩), .string what] w fun e w' => e = .returned (.int .u64 0) ∧ ∃ a, Dec w' d (.slice none 0 0) off (.iface 78 (.pointer (some a))) ∧ w.grownBy w' (some d) := by
  refine (u64_short_new d off what ao len cap w hl hwh (cell_of h 0) (cell_of h 1) (cell_of h 2) (free_of h 0) (free_of h 2)).mono ?_
  rintro e w' ⟨rfl, t, s, rfl⟩
  exact ⟨rfl, _, new_world h _ _ _⟩

theorem u32B_short (d : Nat) (off : Int) (what : ByteArray) (ao : Option Addr) (len cap : Nat) (err : Value) (herr : err = .nilIface ∨ ∃ a, err = .iface 78 (.pointer (some a))) (w : World) (hl : len < 4) (hwh : what.size ≤ 1000) (h : Dec w d (.slice ao len cap) off err) :
    Calls Ybaf.prog 10 #[.pointer (some ⟨d, 0, none⟩), .string what] w fun e w' => e = .returned (.int .u32 0) ∧ ∃ a, Dec w' d (.slice none 0 0) off (.iface 78 (.pointer (some a))) ∧ w.grownBy w' (some d) := by
  rcases herr with rfl | ⟨a, rfl⟩
  · refine (u32_short_new d off what ao len cap w hl hwh (cell_of h 0) (cell_of h 1) (cell_of h 2) (free_of h 0) (free_of h 2)).mono ?_
    rintro e w' ⟨rfl, t, s, rfl⟩
    exact ⟨rfl, _, new_world h _ _ _⟩
  · refine (u32_short_held d off what 78 (.pointer (some a)) ao len cap w hl hwh (cell_of h 0) (cell_of h 1) (cell_of h 2) (free_of h 0)).mono ?_
    rintro e w' ⟨rfl, rfl⟩
    exact ⟨rfl, _, short_world h⟩

theorem u64B_ok (d : Nat) (off : Int) (what : ByteArray) (b o len cap : Nat) (zs : List Int) (k : Nat) (err : Value) (w : World) (hl : 8 ≤ len) (hlc : len ≤ cap) (hcap : cap ≤ maxLen) (hdb : d ≠ b) (h : Dec w d (.slice (some ⟨b, o, none⟩) len cap) off err)
    (hr : ∀ j, 0 ≤ zs.getD j 0 ∧ zs.getD j 0 < 256) (hc : ∀ j, j < 8 → w.cell? ⟨b, o + j, none⟩ = some (.int .u8 (zs.getD (k + j) 0))) :
    Calls Ybaf.prog 9 #[.pointer (some ⟨d, 0, none⟩), .string what] w fun e w' => e = .returned (.int .u64 (be8 (zs.getD k 0) (zs.getD (k + 1) 0) (zs.getD (k + 2) 0) (zs.getD (k + 3) 0) (zs.getD (k + 4) 0) (zs.getD (k + 5) 0) (zs.getD (k + 6) 0) (zs.getD (k + 7) 0))) ∧
      ∃ o', Dec w' d (.slice (some ⟨b, o', none⟩) (len - 8) (cap - 8)) (wrap64 (off + 8)) err ∧ w.grownBy w' (some d) := by
  refine (u64_ok d off what b o len cap _ _ _ _ _ _ _ _ w hl hlc hcap hdb (cell_of h 0) (cell_of h 1) (free_of h 0) (free_of h 1) ?_ (hc 0 (by omega)) (hc 1 (by omega)) (hc 2 (by omega)) (hc 3 (by omega)) (hc 4 (by omega)) (hc 5 (by omega)) (hc 6 (by omega)) (hc 7 (by omega))).mono ?_
  · simp only [List.mem_cons, List.not_mem_nil, or_false]
    rintro x (rfl | rfl | rfl | rfl | rfl | rfl | rfl | rfl) <;> exact hr _
  · rintro e w' ⟨rfl, o', q, _, rfl⟩
    exact ⟨rfl, o', ok_world h _ _ _ _⟩

theorem u32B_ok (d : Nat) (off : Int) (what : ByteArray) (b o len cap : Nat) (zs : List Int) (k : Nat) (err : Value) (w : World) (hl : 4 ≤ len) (hlc : len ≤ cap) (hcap : cap ≤ maxLen) (hdb : d ≠ b) (h : Dec w d (.slice (some ⟨b, o, none⟩) len cap) off err)
    (hr : ∀ j, 0 ≤ zs.getD j 0 ∧ zs.getD j 0 < 256) (hc : ∀ j, j < 4 → w.cell? ⟨b, o + j, none⟩ = some (.int .u8 (zs.getD (k + j) 0))) :
    Calls Ybaf.prog 10 #[.pointer (some ⟨d, 0, none⟩), .string what] w fun e w' => e = .returned (.int .u32 (be4 (zs.getD k 0) (zs.getD (k + 1) 0) (zs.getD (k + 2) 0) (zs.getD (k + 3) 0))) ∧
      ∃ o', (4 < len → o' = o + 4) ∧ Dec w' d (.slice (some ⟨b, o', none⟩) (len - 4) (cap - 4)) (wrap64 (off + 4)) err ∧ w.grownBy w' (some d) := by
  refine (u32_ok d off what b o len cap _ _ _ _ w hl hlc hcap hdb (cell_of h 0) (cell_of h 1) (free_of h 0) (free_of h 1) ?_ (hc 0 (by omega)) (hc 1 (by omega)) (hc 2 (by omega)) (hc 3 (by omega))).mono ?_
  · simp only [List.mem_cons, List.not_mem_nil, or_false]
    rintro x (rfl | rfl | rfl | rfl) <;> exact hr _
  · rintro e w' ⟨rfl, o', q, ho, rfl⟩
    exact ⟨rfl, o', ho, ok_world h _ _ _ _⟩

theorem Dec.keep {w w' : World} {d d' : Nat} {b : Value} {off : Int} {err : Value} (h : Dec w d b off err) (hg : w.grownBy w' (some d')) (hne : d ≠ d') : Dec w' d b off err :=
  (hg.block d (lt_of_heap h) (fun e => hne (by injection e))).trans h
theorem cell_keep {w w' : World} {d' b o : Nat} {v : Value} (h : w.cell? ⟨b, o, none⟩ = some v) (hg : w.grownBy w' (some d')) (hne : b ≠ d') : w'.cell? ⟨b, o, none⟩ = some v :=
  (World.cell?_of_block (hg.block b (World.block_lt_of_cell? _ _ h) (fun e => hne (by injection e)))).trans h

theorem split_big (a0 : Option Addr) (len0 cap0 : Nat) (w : World) (hb : 1024 < len0) (hm : len0 ≤ maxLen) :
    Calls Ybaf.prog 4 #[.slice a0 len0 cap0] w fun e w' => e = .returned (.bool true) ∧ Below w.heap.size w w' := by
  unfold maxLen at hm
  go_enter Ybaf.func4, Ybaf.ntmps4
  go_wp2
  go_ret
  exact ⟨rfl, Below.refl _ _⟩

theorem copy_nil' (w : World) : Calls Ybaf.prog 7 #[.slice none 0 0] w fun e w' => e = .returned (.slice none 0 0) ∧ w = w' := (copy_nil w).mono fun _ _ h => ⟨h.1, h.2.symm⟩

theorem heap_at (w : World) (x : Obj) : (w.alloc x).heap[w.heap.size]? = some x := by
  show (w.heap.push x)[w.heap.size]? = _
  simp

set_option maxHeartbeats 1000000 in
theorem split_nil (w : World) :
    Calls Ybaf.prog 4 #[.slice none 0 0] w fun e w' => e = .returned (.bool true) ∧ Below w.heap.size w w' := by
  have q := q22
  have hd1 : Dec ((w.alloc (.cells #[.slice none 0 0, .int .i64 0, .nilIface, .int .i64 0] 29)).alloc (.cells #[.slice none 0 0, .int .i64 0, .nilIface, .int .i64 0] 29)) w.heap.size (.slice none 0 0) 0 .nilIface := heap_alloc_lt (heap_at _ _)
  have hd2 : Dec ((w.alloc (.cells #[.slice none 0 0, .int .i64 0, .nilIface, .int .i64 0] 29)).alloc (.cells #[.slice none 0 0, .int .i64 0, .nilIface, .int .i64 0] 29)) (w.heap.size + 1) (.slice none 0 0) 0 .nilIface := by
    have := heap_at (w.alloc (.cells #[.slice none 0 0, .int .i64 0, .nilIface, .int .i64 0] 29)) (.cells #[.slice none 0 0, .int .i64 0, .nilIface, .int .i64 0] 29)
    simpa [Dec] using this
  have hbel : Below w.heap.size w ((w.alloc (.cells #[.slice none 0 0, .int .i64 0, .nilIface, .int .i64 0] 29)).alloc (.cells #[.slice none 0 0, .int .i64 0, .nilIface, .int .i64 0] 29)) := by go_grown
  have hsz : w.heap.size + 2 ≤ ((w.alloc (.cells #[.slice none 0 0, .int .i64 0, .nilIface, .int .i64 0] 29)).alloc (.cells #[.slice none 0 0, .int .i64 0, .nilIface, .int .i64 0] 29)).heap.size := by simp
  have H1 : Hid _ := hd1
  have H2 : Hid _ := hd2
  have H3 : Hid _ := hbel
  have H4 : Hid _ := hsz
  clear hd1 hd2 hbel hsz
  go_enter Ybaf.func4, Ybaf.ntmps4
  go_wp2_with (first
    | (go_at_call 7; refine (copy_nil' _).mono ?_; rintro e w' ⟨rfl, rfl⟩)
    | (go_at_call 9; refine (u64B_short w.heap.size 0 _ none 0 0 _ (by omega) (by decide) H1.out).mono ?_; rintro e w1 ⟨rfl, a, k1, g1⟩))
  refine (u32B_short (w.heap.size + 1) 0 _ none 0 0 .nilIface (.inl rfl) _ (by omega) (by decide) (Dec.keep H2.out g1 (by omega))).mono ?_
  rintro e w2 ⟨rfl, a2, k2, g2⟩
  have k12 := Dec.keep k1 g2 (by omega)
  go_wp2_with fail
  refine (u32B_short (w.heap.size + 1) 0 _ none 0 0 _ (.inr ⟨a2, rfl⟩) _ (by omega) (by decide) k2).mono ?_
  rintro e w3 ⟨rfl, a3, k3, g3⟩
  have k13 := Dec.keep k12 g3 (by omega)
  have m0 := cell_of k13 0
  have m1 := cell_of k13 1
  have m2 := cell_of k13 2
  simp at m0 m1 m2
  have hb3 : Below w.heap.size w w3 := (((H3.out.grown g1 (by have := H4.out; omega) (by intro k hk; injection hk; omega)).grown g2 (by have := H4.out; have := g1.size; omega) (by intro k hk; injection hk; omega)).grown g3 (by have := H4.out; have := g1.size; have := g2.size; omega) (by intro k hk; injection hk; omega))
  clear k1 k2 k3 g1 g2 g3 k12 k13 H1 H2 H3 H4
  go_wp2
  go_ret
  exact ⟨rfl, hb3⟩

/-- The memory as the two decoders are laid. -/
def W4 (w : World) (n : Nat) (zs : List Int) : World :=
  (((w.alloc (.cells (cp n zs) 5)).alloc (.cells #[.slice (some ⟨w.heap.size, 0, none⟩) n n, .int .i64 0, .nilIface, .int .i64 0] 29)).alloc (.cells (cp n zs) 5)).alloc (.cells #[.slice (some ⟨w.heap.size + 1 + 1, 0, none⟩) n n, .int .i64 0, .nilIface, .int .i64 0] 29)

structure Lay (w : World) (n : Nat) (zs : List Int) (W : World) : Prop where
  d1 : Dec W (w.heap.size + 1) (.slice (some ⟨w.heap.size, 0, none⟩) n n) 0 .nilIface
  d2 : Dec W (w.heap.size + 1 + 1 + 1) (.slice (some ⟨w.heap.size + 1 + 1, 0, none⟩) n n) 0 .nilIface
  c1 : ∀ j, j < n → W.cell? ⟨w.heap.size, j, none⟩ = some (.int .u8 (zs.getD j 0))
  c2 : ∀ j, j < n → W.cell? ⟨w.heap.size + 1 + 1, j, none⟩ = some (.int .u8 (zs.getD j 0))
  below : Below w.heap.size w W
  size : w.heap.size + 4 ≤ W.heap.size

theorem lay4 (w : World) (n : Nat) (zs : List Int) (hn : n ≤ zs.length) : Lay w n zs (W4 w n zs) := by
  refine ⟨?_, ?_, ?_, ?_, ?_, ?_⟩
  · have h := heap_at (w.alloc (.cells (cp n zs) 5)) (.cells #[.slice (some ⟨w.heap.size, 0, none⟩) n n, .int .i64 0, .nilIface, .int .i64 0] 29)
    have h' := heap_alloc_lt (x := .cells #[.slice (some ⟨w.heap.size + 1 + 1, 0, none⟩) n n, .int .i64 0, .nilIface, .int .i64 0] 29) (heap_alloc_lt (x := .cells (cp n zs) 5) h)
    simpa [Dec, W4] using h'
  · have h := heap_at (((w.alloc (.cells (cp n zs) 5)).alloc (.cells #[.slice (some ⟨w.heap.size, 0, none⟩) n n, .int .i64 0, .nilIface, .int .i64 0] 29)).alloc (.cells (cp n zs) 5)) (.cells #[.slice (some ⟨w.heap.size + 1 + 1, 0, none⟩) n n, .int .i64 0, .nilIface, .int .i64 0] 29)
    simpa [Dec, W4] using h
  · intro j hj
    unfold W4
    rw [World.cell?_alloc_past _ _ _ (by simp; omega), World.cell?_alloc_past _ _ _ (by simp; omega), World.cell?_alloc_past _ _ _ (by simp), World.cell?_alloc_new]
    exact cp_at n zs hn j hj
  · intro j hj
    unfold W4
    rw [World.cell?_alloc_past _ _ _ (by simp), World.cell?_alloc_at _ _ _ _ (by simp)]
    exact cp_at n zs hn j hj
  · unfold W4
    go_grown
  · simp [W4]

set_option maxHeartbeats 1000000 in
theorem split_short (x : Addr) (n cap : Nat) (zs : List Int) (w : World) (h4 : n < 4) (hn : n ≤ zs.length) (hcell : ∀ j, j < zs.length → w.cell? (x.add j) = some (.int .u8 (zs.getD j 0))) :
    Calls Ybaf.prog 4 #[.slice (some x) n cap] w fun e w' => e = .returned (.bool true) ∧ Below w.heap.size w w' := by
  have q := q22
  have hc : Hid (∀ (o1 o2 : Obj) (j : Nat), j < zs.length → ((w.alloc o1).alloc o2).cell? (x.add j) = some (.int .u8 (zs.getD j 0))) := by
    intro o1 o2 j hj
    have h := hcell j hj
    have hb := World.block_lt_of_cell? _ _ h
    rw [World.cell?_alloc_lt _ _ _ (by simp; omega), World.cell?_alloc_lt _ _ _ hb]; exact h
  have hc0 : Hid (∀ j, j < zs.length → w.cell? (x.add j) = some (.int .u8 (zs.getD j 0))) := hcell
  have HL : Hid (Lay w n zs (W4 w n zs)) := lay4 w n zs hn
  clear hcell
  go_enter Ybaf.func4, Ybaf.ntmps4
  go_wp2_with (first
    | (go_at_call 7; refine (copy_some w x n cap zs (by omega) hn hc0.out).mono ?_; rintro e w' ⟨rfl, rfl⟩)
    | (go_at_call 7; refine (copy_some _ x n cap zs (by omega) hn (hc.out _ _)).mono ?_; rintro e w' ⟨rfl, rfl⟩)
    | (go_at_call 9; refine (u64B_short (w.heap.size + 1) 0 _ (some ⟨w.heap.size, 0, none⟩) n n _ (by omega) (by decide) HL.out.d1).mono ?_; rintro e w1 ⟨rfl, a, k1, g1⟩))
  refine (u32B_short (w.heap.size + 1 + 1 + 1) 0 _ (some ⟨w.heap.size + 1 + 1, 0, none⟩) n n .nilIface (.inl rfl) _ (by omega) (by decide) (Dec.keep HL.out.d2 g1 (by omega))).mono ?_
  rintro e w2 ⟨rfl, a2, k2, g2⟩
  have k12 := Dec.keep k1 g2 (by omega)
  go_wp2_with fail
  refine (u32B_short (w.heap.size + 1 + 1 + 1) 0 _ none 0 0 _ (.inr ⟨a2, rfl⟩) _ (by omega) (by decide) k2).mono ?_
  rintro e w3 ⟨rfl, a3, k3, g3⟩
  have k13 := Dec.keep k12 g3 (by omega)
  have m0 := cell_of k13 0
  have m1 := cell_of k13 1
  have m2 := cell_of k13 2
  simp at m0 m1 m2
  have hb3 : Below w.heap.size w w3 := (((HL.out.below.grown g1 (by have := HL.out.size; omega) (by intro k hk; injection hk; omega)).grown g2 (by have := HL.out.size; have := g1.size; omega) (by intro k hk; injection hk; omega)).grown g3 (by have := HL.out.size; have := g1.size; have := g2.size; omega) (by intro k hk; injection hk; omega))
  clear k1 k2 k3 g1 g2 g3 k12 k13 HL hc hc0
  go_wp2
  go_ret
  exact ⟨rfl, hb3⟩

set_option maxHeartbeats 1000000 in
theorem split_mid (x : Addr) (n cap : Nat) (zs : List Int) (w : World) (h4 : 4 ≤ n) (h8 : n < 8) (hn : n ≤ zs.length) (hcell : ∀ j, j < zs.length → w.cell? (x.add j) = some (.int .u8 (zs.getD j 0))) (hr : Hid (∀ j, 0 ≤ zs.getD j 0 ∧ zs.getD j 0 < 256)) :
    Calls Ybaf.prog 4 #[.slice (some x) n cap] w fun e w' => e = .returned (.bool true) ∧ Below w.heap.size w w' := by
  have q := q22
  have hc : Hid (∀ (o1 o2 : Obj) (j : Nat), j < zs.length → ((w.alloc o1).alloc o2).cell? (x.add j) = some (.int .u8 (zs.getD j 0))) := by
    intro o1 o2 j hj
    have h := hcell j hj
    have hb := World.block_lt_of_cell? _ _ h
    rw [World.cell?_alloc_lt _ _ _ (by simp; omega), World.cell?_alloc_lt _ _ _ hb]; exact h
  have hc0 : Hid (∀ j, j < zs.length → w.cell? (x.add j) = some (.int .u8 (zs.getD j 0))) := hcell
  have HL : Hid (Lay w n zs (W4 w n zs)) := lay4 w n zs hn
  clear hcell
  go_enter Ybaf.func4, Ybaf.ntmps4
  go_wp2_with (first
    | (go_at_call 7; refine (copy_some w x n cap zs (by omega) hn hc0.out).mono ?_; rintro e w' ⟨rfl, rfl⟩)
    | (go_at_call 7; refine (copy_some _ x n cap zs (by omega) hn (hc.out _ _)).mono ?_; rintro e w' ⟨rfl, rfl⟩)
    | (go_at_call 9; refine (u64B_short (w.heap.size + 1) 0 _ (some ⟨w.heap.size, 0, none⟩) n n _ (by omega) (by decide) HL.out.d1).mono ?_; rintro e w1 ⟨rfl, a, k1, g1⟩))
  refine (u32B_ok (w.heap.size + 1 + 1 + 1) 0 _ (w.heap.size + 1 + 1) 0 n n zs 0 .nilIface _ (by omega) (by omega) (by unfold maxLen; omega) (by omega) (Dec.keep HL.out.d2 g1 (by omega)) hr.out (fun j hj => by simp only [Nat.zero_add]; exact cell_keep (HL.out.c2 j (by omega)) g1 (by omega))).mono ?_
  rintro e w2 ⟨rfl, o2, ho2, k2, g2⟩
  have k12 := Dec.keep k1 g2 (by omega)
  go_wp2_with fail
  refine (u32B_short (w.heap.size + 1 + 1 + 1) _ _ (some ⟨w.heap.size + 1 + 1, o2, none⟩) (n - 4) (n - 4) .nilIface (.inl rfl) _ (by omega) (by decide) k2).mono ?_
  rintro e w3 ⟨rfl, a3, k3, g3⟩
  have k13 := Dec.keep k12 g3 (by omega)
  have m0 := cell_of k13 0
  have m1 := cell_of k13 1
  have m2 := cell_of k13 2
  simp at m0 m1 m2
  have hb3 : Below w.heap.size w w3 := (((HL.out.below.grown g1 (by have := HL.out.size; omega) (by intro k hk; injection hk; omega)).grown g2 (by have := HL.out.size; have := g1.size; omega) (by intro k hk; injection hk; omega)).grown g3 (by have := HL.out.size; have := g1.size; have := g2.size; omega) (by intro k hk; injection hk; omega))
  clear k1 k2 k3 g1 g2 g3 k12 k13 HL hc hc0 ho2
  go_wp2
  go_ret
  exact ⟨rfl, hb3⟩

theorem be4_bd (zs : List Int) (k : Nat) (hr : ∀ j, 0 ≤ zs.getD j 0 ∧ zs.getD j 0 < 256) : 0 ≤ be4 (zs.getD k 0) (zs.getD (k + 1) 0) (zs.getD (k + 2) 0) (zs.getD (k + 3) 0) ∧ be4 (zs.getD k 0) (zs.getD (k + 1) 0) (zs.getD (k + 2) 0) (zs.getD (k + 3) 0) < 4294967296 := by
  have h0 := hr k; have h1 := hr (k + 1); have h2 := hr (k + 2); have h3 := hr (k + 3)
  unfold be4
  omega

theorem join_or (zs : List Int) (hr : ∀ j, 0 ≤ zs.getD j 0 ∧ zs.getD j 0 < 256) (X H L : Int) (hX : X = be8 (zs.getD 0 0) (zs.getD (0 + 1) 0) (zs.getD (0 + 2) 0) (zs.getD (0 + 3) 0) (zs.getD (0 + 4) 0) (zs.getD (0 + 5) 0) (zs.getD (0 + 6) 0) (zs.getD (0 + 7) 0))
    (hH : H = be4 (zs.getD 0 0) (zs.getD (0 + 1) 0) (zs.getD (0 + 2) 0) (zs.getD (0 + 3) 0)) (hL : L = be4 (zs.getD 4 0) (zs.getD (4 + 1) 0) (zs.getD (4 + 2) 0) (zs.getD (4 + 3) 0)) : bits BinOp.or IntKind.u64 (IntKind.u64.wrap (IntKind.u64.wrap H * 4294967296)) (IntKind.u64.wrap L) = X := by
  have b1 := be4_bd zs 0 hr
  have b2 := be4_bd zs 4 hr
  rw [← hH] at b1
  rw [← hL] at b2
  rw [u64_wrap_id H b1.1 (by omega), u64_wrap_id L b2.1 (by omega), u64_wrap_id (H * 4294967296) (by omega) (by omega), bits_join .u64 64 (by decide) wraps_u64 32 (H * 4294967296) L (by omega) (by omega) (by omega) b2.1 (by omega) (by omega), hX, hH, hL]
  unfold be8 be4
  simp only [Nat.zero_add, Nat.reduceAdd]
  omega

theorem named64 {v : Int} {R : World → Prop} (e : Ending) (w' : World) (h : e = .returned (.int .u64 v) ∧ R w') : ∃ X, e = .returned (.int .u64 X) ∧ Hid (X = v) ∧ R w' := ⟨v, h.1, rfl, h.2⟩
theorem named32 {v : Int} {R : World → Prop} (e : Ending) (w' : World) (h : e = .returned (.int .u32 v) ∧ R w') : ∃ X, e = .returned (.int .u32 X) ∧ Hid (X = v) ∧ R w' := ⟨v, h.1, rfl, h.2⟩

set_option maxHeartbeats 1000000 in
theorem split_long (x : Addr) (n cap : Nat) (zs : List Int) (w : World) (h8 : 8 ≤ n) (h1024 : n ≤ 1024) (hn : n ≤ zs.length) (hcell : ∀ j, j < zs.length → w.cell? (x.add j) = some (.int .u8 (zs.getD j 0))) (hr : Hid (∀ j, 0 ≤ zs.getD j 0 ∧ zs.getD j 0 < 256)) :
    Calls Ybaf.prog 4 #[.slice (some x) n cap] w fun e w' => e = .returned (.bool true) ∧ Below w.heap.size w w' := by
  have q := q22
  have hc : Hid (∀ (o1 o2 : Obj) (j : Nat), j < zs.length → ((w.alloc o1).alloc o2).cell? (x.add j) = some (.int .u8 (zs.getD j 0))) := by
    intro o1 o2 j hj
    have h := hcell j hj
    have hb := World.block_lt_of_cell? _ _ h
    rw [World.cell?_alloc_lt _ _ _ (by simp; omega), World.cell?_alloc_lt _ _ _ hb]; exact h
  have hc0 : Hid (∀ j, j < zs.length → w.cell? (x.add j) = some (.int .u8 (zs.getD j 0))) := hcell
  have HL : Hid (Lay w n zs (W4 w n zs)) := lay4 w n zs hn
  clear hcell
  go_enter Ybaf.func4, Ybaf.ntmps4
  go_wp2_with (first
    | (go_at_call 7; refine (copy_some w x n cap zs (by omega) hn hc0.out).mono ?_; rintro e w' ⟨rfl, rfl⟩)
    | (go_at_call 7; refine (copy_some _ x n cap zs (by omega) hn (hc.out _ _)).mono ?_; rintro e w' ⟨rfl, rfl⟩)
    | (go_at_call 9; refine ((u64B_ok (w.heap.size + 1) 0 _ w.heap.size 0 n n zs 0 .nilIface _ (by omega) (by omega) (by unfold maxLen; omega) (by omega) HL.out.d1 hr.out (fun j hj => by simp only [Nat.zero_add]; exact HL.out.c1 j (by omega))).mono named64).mono ?_; rintro e w1 ⟨X, rfl, hX, o1, k1, g1⟩))
  refine ((u32B_ok (w.heap.size + 1 + 1 + 1) 0 _ (w.heap.size + 1 + 1) 0 n n zs 0 .nilIface _ (by omega) (by omega) (by unfold maxLen; omega) (by omega) (Dec.keep HL.out.d2 g1 (by omega)) hr.out (fun j hj => by simp only [Nat.zero_add]; exact cell_keep (HL.out.c2 j (by omega)) g1 (by omega))).mono named32).mono ?_
  rintro e w2 ⟨H, rfl, hH, o2, ho2, k2, g2⟩
  have k12 := Dec.keep k1 g2 (by omega)
  have eo2 : o2 = 4 := by omega
  subst eo2
  go_wp2_with fail
  refine ((u32B_ok (w.heap.size + 1 + 1 + 1) _ _ (w.heap.size + 1 + 1) 4 (n - 4) (n - 4) zs 4 .nilIface _ (by omega) (by omega) (by unfold maxLen; omega) (by omega) k2 hr.out (fun j hj => cell_keep (cell_keep (HL.out.c2 (4 + j) (by omega)) g1 (by omega)) g2 (by omega))).mono named32).mono ?_
  rintro e w3 ⟨L, rfl, hL, o3, ho3, k3, g3⟩
  have k13 := Dec.keep k12 g3 (by omega)
  have m0 := cell_of k13 0
  have m1 := cell_of k13 1
  have m2 := cell_of k13 2
  have n0 := cell_of k3 0
  have n1 := cell_of k3 1
  have n2 := cell_of k3 2
  simp at m0 m1 m2 n0 n1 n2
  have hb3 : Below w.heap.size w w3 := (((HL.out.below.grown g1 (by have := HL.out.size; omega) (by intro k hk; injection hk; omega)).grown g2 (by have := HL.out.size; have := g1.size; omega) (by intro k hk; injection hk; omega)).grown g3 (by have := HL.out.size; have := g1.size; have := g2.size; omega) (by intro k hk; injection hk; omega))
  clear k1 k2 k3 g1 g2 g3 k12 k13 HL hc hc0 ho2 ho3
  have hor := join_or zs hr.out X H L hX.out hH.out hL.out
  have b1 : 0 ≤ H ∧ H < 4294967296 := by rw [hH.out]; exact be4_bd zs 0 hr.out
  have b2 : 0 ≤ L ∧ L < 4294967296 := by rw [hL.out]; exact be4_bd zs 4 hr.out
  obtain ⟨b10, b11⟩ := b1
  obtain ⟨b20, b21⟩ := b2
  clear hX hH hL hr
  have w8 : wrap64 8 = 8 := by unfold wrap64; omega
  have w44 : wrap64 (wrap64 4 + 4) = 8 := by unfold wrap64; omega
  rw [w8] at m1
  rw [w44] at n1
  have e44 : n - 4 - 4 = n - 8 := by omega
  rw [e44] at n0
  clear e44 w8 w44
  go_wp2
  go_quiet (fail)
  go_wp2
  go_ret
  exact ⟨rfl, hb3.trans ⟨rfl, rfl, rfl, Nat.le_refl _, fun _ _ => rfl⟩⟩

end Go.Proofs.YbulkctuaFmt

/-
  slices.Sort at []uint64: medianOrdered, medianAdjacentOrdered, choosePivotOrdered.
-/
import Derived.Test.YbulkctquGreatFmtSortB
namespace Go.Proofs.YbulkctquGreatFmt
open Go.ChangeShapes Go.WideShapes Go.ChangeAt Go.RowKit Go.Ord
set_option linter.unusedVariables false

theorem URow.keep {w w' : World} {b n : Nat} {S : List Nat} (h : URow w b n) (hu : Upd S w w') (hb : b ∉ S) : URow w' b n := by
  obtain ⟨G, hG⟩ := h.cells
  exact ⟨⟨G, fun t ht => hu.cell (hG t ht) hb⟩, fun t ht => hu.free (World.block_lt_of_cell? _ _ (hG t ht)) (h.free t ht) hb⟩

theorem med64 (b n cap x y z s m : Nat) (w : World) (w0 : World) (hr : URow w0 b n) (hbs : b ≠ s) (hx : x < n) (hy : y < n) (hz : z < n) (hn : n < 1000000) (hs : USw s m w0 w) (hm : m < 900000) :
    Calls Ybaz.prog 108 #[.slice (some ⟨b, 0, none⟩) n cap, .int .i64 x, .int .i64 y, .int .i64 z, .pointer (some ⟨s, 0, none⟩)] w fun e w' => (∃ p : Nat, e = .returned (.int .i64 p) ∧ (p = x ∨ p = y ∨ p = z)) ∧ USw s (m + 3) w0 w' := by
  have HR : Hid _ := hr
  have HS : Hid _ := hs
  clear hr hs
  go_enter Ybaz.func108, Ybaz.ntmps108
  go_wp2_with fail
  refine (ord64 b n cap x y s m w (HR.out.keep HS.out.upd (by simpa using hbs)) hx hy hn w0 HS.out (by omega)).mono ?_
  rintro e w1 ⟨⟨p1, q1, rfl, h1⟩, h2⟩
  have H1 : Hid (p1 = x ∧ q1 = y ∨ p1 = y ∧ q1 = x) := h1
  have H2 : Hid _ := h2
  clear h1 h2
  go_wp2_with fail
  refine (ord64 b n cap q1 z s (m + 1) w1 (HR.out.keep H2.out.upd (by simpa using hbs)) (by have := H1.out; omega) hz hn w0 H2.out (by omega)).mono ?_
  rintro e w2 ⟨⟨p2, q2, rfl, h1⟩, h2⟩
  have H3 : Hid (p2 = q1 ∧ q2 = z ∨ p2 = z ∧ q2 = q1) := h1
  have H4 : Hid _ := h2
  clear h1 h2
  go_wp2_with fail
  refine (ord64 b n cap p1 p2 s (m + 1 + 1) w2 (HR.out.keep H4.out.upd (by simpa using hbs)) (by have := H1.out; omega) (by have := H1.out; have := H3.out; omega) hn w0 H4.out (by omega)).mono ?_
  rintro e w3 ⟨⟨p3, q3, rfl, h1⟩, h2⟩
  have H5 : Hid (p3 = p1 ∧ q3 = p2 ∨ p3 = p2 ∧ q3 = p1) := h1
  have H6 : Hid _ := h2
  clear h1 h2
  go_wp2_with fail
  go_ret
  exact ⟨⟨q3, rfl, by have := H1.out; have := H3.out; have := H5.out; omega⟩, H6.out⟩

theorem madj64 (b n cap x s m : Nat) (w : World) (w0 : World) (hr : URow w0 b n) (hbs : b ≠ s) (hx : 1 ≤ x) (hy : x + 1 < n) (hn : n < 1000000) (hs : USw s m w0 w) (hm : m < 900000) :
    Calls Ybaz.prog 107 #[.slice (some ⟨b, 0, none⟩) n cap, .int .i64 x, .pointer (some ⟨s, 0, none⟩)] w fun e w' => (∃ p : Nat, e = .returned (.int .i64 p) ∧ (p + 1 = x ∨ p = x ∨ p = x + 1)) ∧ USw s (m + 3) w0 w' := by
  have HR : Hid _ := hr
  have HS : Hid _ := hs
  clear hr hs
  obtain ⟨k, rfl⟩ : ∃ k, x = k + 1 := ⟨x - 1, by omega⟩
  have H : Hid (Calls Ybaz.prog 108 #[.slice (some ⟨b, 0, none⟩) n cap, .int .i64 k, .int .i64 ((k : Int) + 1), .int .i64 ((k : Int) + 1 + 1), .pointer (some ⟨s, 0, none⟩)] w fun e w' => (∃ p : Nat, e = .returned (.int .i64 p) ∧ (p = k ∨ p = k + 1 ∨ p = k + 1 + 1)) ∧ USw s (m + 3) w0 w') :=
    med64 b n cap k (k + 1) (k + 1 + 1) s m w w0 HR.out hbs (by omega) (by omega) (by omega) hn HS.out hm
  rw [show ((k + 1 : Nat) : Int) = (k : Int) + 1 by omega]
  have hk : k < 1000000 := by omega
  go_enter Ybaz.func107, Ybaz.ntmps107
  go_wp2_with fail
  refine H.out.mono ?_
  rintro e w1 ⟨⟨p, rfl, h1⟩, h2⟩
  have H1 : Hid (p = k ∨ p = k + 1 ∨ p = k + 1 + 1) := h1
  have H2 : Hid _ := h2
  clear h1 h2
  go_wp2_with fail
  go_ret
  exact ⟨⟨p, rfl, by have := H1.out; omega⟩, H2.out⟩

set_option maxHeartbeats 4000000 in
set_option maxRecDepth 100000 in
theorem pivot64 (b n cap x y : Nat) (w : World) (hr : URow w b n) (hb : b < w.heap.size) (hxy : x + 12 < y) (hy : y ≤ n) (hn : n < 1000000) :
    Calls Ybaz.prog 86 #[.slice (some ⟨b, 0, none⟩) n cap, .int .i64 x, .int .i64 y] w fun e w' => (∃ (p : Nat) (h : Int), e = .returned (.tuple #[.int .i64 p, .int .i64 h]) ∧ x ≤ p ∧ p < y ∧ (h = 0 ∨ h = 1 ∨ h = 2)) ∧ Upd [] w w' := by
  have HR : Hid _ := hr
  clear hr
  have hx2 : x < 1000000 := by omega
  have hy2 : y < 1000001 := by omega
  have US : Hid (USw w.heap.size 0 w (w.alloc (.cells #[.int .i64 0] 3))) := ⟨⟨0, by omega, by simp⟩, (Blk.new w #[.int .i64 0] 3).free 0, Upd.alloc _ _ _⟩
  go_enter Ybaz.func86, Ybaz.ntmps86
  go_wp2_with fail
  all_goals have hbs : b ≠ w.heap.size := by omega
  all_goals obtain ⟨i0, hi0⟩ : ∃ i0 : Nat, (x : Int) + ((y : Int) - (x : Int)) / 4 = i0 := ⟨x + (y - x) / 4, by omega⟩
  all_goals obtain ⟨j0, hj0⟩ : ∃ j0 : Nat, (x : Int) + ((y : Int) - (x : Int)) / 4 * 2 = j0 := ⟨x + (y - x) / 4 * 2, by omega⟩
  all_goals obtain ⟨k0, hk0⟩ : ∃ k0 : Nat, (x : Int) + ((y : Int) - (x : Int)) / 4 * 3 = k0 := ⟨x + (y - x) / 4 * 3, by omega⟩
  all_goals rw [hi0, hj0, hk0]
  all_goals have a1 : x + 3 ≤ i0 := by omega
  all_goals have a2 : i0 + 3 ≤ j0 := by omega
  all_goals have a3 : j0 + 3 ≤ k0 := by omega
  all_goals have a4 : k0 + 3 ≤ y := by omega
  all_goals clear hi0 hj0 hk0
  all_goals obtain ⟨w1, hw1⟩ : ∃ z : World, z = w.alloc (.cells #[.int .i64 0] 3) := ⟨_, rfl⟩
  all_goals rw [← hw1] at US ⊢
  all_goals clear hw1
  · refine (madj64 b n cap i0 w.heap.size 0 w1 w HR.out hbs (by omega) (by omega) hn US.out (by omega)).mono ?_
    rintro e w2 ⟨⟨p1, rfl, h1⟩, h2⟩
    have b1 : x ≤ p1 ∧ p1 < y := by omega
    have H2 : Hid _ := h2
    clear h1 h2 US
    go_wp2_with fail
    refine (madj64 b n cap j0 w.heap.size (0 + 3) w2 w HR.out hbs (by omega) (by omega) hn H2.out (by omega)).mono ?_
    rintro e w3 ⟨⟨p2, rfl, h1⟩, h2⟩
    have b2 : x ≤ p2 ∧ p2 < y := by omega
    have H3 : Hid _ := h2
    clear h1 h2 H2
    go_wp2_with fail
    refine (madj64 b n cap k0 w.heap.size (0 + 3 + 3) w3 w HR.out hbs (by omega) (by omega) hn H3.out (by omega)).mono ?_
    rintro e w4 ⟨⟨p3, rfl, h1⟩, h2⟩
    have b3 : x ≤ p3 ∧ p3 < y := by omega
    have H4 : Hid _ := h2
    clear h1 h2 H3
    go_wp2_with fail
    refine (med64 b n cap p1 p2 p3 w.heap.size (0 + 3 + 3 + 3) w4 w HR.out hbs (by omega) (by omega) (by omega) hn H4.out (by omega)).mono ?_
    rintro e w5 ⟨⟨p, rfl, h1⟩, h2⟩
    have b5 : x ≤ p ∧ p < y := by omega
    obtain ⟨v, _, hv⟩ := h2.cell
    have U : Upd [] w w5 := h2.upd.mono (fun k hk => by simp at hk; exact .inr (by omega))
    have HU : Hid _ := U
    clear h1 h2 H4 U
    go_wp2_with fail
    all_goals go_ret2
    all_goals exact ⟨⟨p, _, rfl, b5.1, b5.2, by omega⟩, HU.out⟩
  · refine (med64 b n cap i0 j0 k0 w.heap.size 0 w1 w HR.out hbs (by omega) (by omega) (by omega) hn US.out (by omega)).mono ?_
    rintro e w5 ⟨⟨p, rfl, h1⟩, h2⟩
    have b5 : x ≤ p ∧ p < y := by omega
    obtain ⟨v, _, hv⟩ := h2.cell
    have U : Upd [] w w5 := h2.upd.mono (fun k hk => by simp at hk; exact .inr (by omega))
    have HU : Hid _ := U
    clear h1 h2 US U
    go_wp2_with fail
    all_goals go_ret2
    all_goals exact ⟨⟨p, _, rfl, b5.1, b5.2, by omega⟩, HU.out⟩
end Go.Proofs.YbulkctquGreatFmt

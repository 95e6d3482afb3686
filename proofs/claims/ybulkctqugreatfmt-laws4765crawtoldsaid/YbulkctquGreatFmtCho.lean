/-
  choose, where no choice is taken up.
-/
import Derived.Test.YbulkctquGreatFmtView
import Derived.Test.YbulkctquGreatFmtCompD
import Derived.Test.YbulkctquGreatFmtMaps2
namespace Go.Proofs.YbulkctquGreatFmt
open Go.ChangeShapes Go.WideShapes Go.ChangeAt Go.RowKit Go.Ord
set_option linter.unusedVariables false

theorem zero83 (w : World) : (zeroValue 83).run Ybaz.prog w = .ok (.slice none 0 0) w := by
  have h : (Ybaz.prog.info? 83).bind (·.zero) = some (.slice none 0 0) := by kernel_rfl
  cases hq : Ybaz.prog.info? 83 with
  | none => rw [hq] at h; cases h
  | some i =>
    rw [hq] at h
    simp at h
    simp [zeroValue, typeInfo, hq, h]
/-- A copy that a box holds. -/
theorem GrV.boxed {w : World} {aS aJ : Option Addr} {G : List (List Nat)} {J : List Bool} {kS kJ : Nat} (h : GrV w aS aJ G J) (h1 : G.length ≤ kS) (h2 : G.length ≤ kJ ∧ kJ ≤ 9223372036854775807) (h3 : aJ = none ∧ kJ = 0 ∨ ∃ c, aJ = some ⟨c, 0, none⟩) :
    GrR (w.alloc (.cells #[.slice aS G.length kS, .slice aJ G.length kJ] 88)) w.heap.size 0 G J := by
  have hb := Blk.new w #[.slice aS G.length kS, .slice aJ G.length kJ] 88
  have hu := Upd.alloc [] w (.cells #[.slice aS G.length kS, .slice aJ G.length kJ] 88)
  exact ⟨aS, kS, aJ, kJ, hb.cell 0, hb.cell 1, h1, h2, h3, h.keep (fun b j v hv => hu.cell hv (by simp))⟩
set_option maxHeartbeats 4000000 in
set_option maxRecDepth 100000 in
theorem choose45 (w : World) (d : Nat) (G : List (List Nat)) (J : List Bool) (h : GrR w d 2 G J) (hc : w.cell? ⟨d, 6, none⟩ = some (.slice none 0 0)) (τ : Nat → Nat) (hτ : ∀ u r, G[u]? = some r → ∀ x ∈ r, x < G.length ∧ τ u < τ x) (hl : G.length < 100000) (hwt : wt G < 1000000) :
    Calls Ybaz.prog 45 #[.pointer (some ⟨d, 0, none⟩)] w fun e w' => e = .returned (.slice none 0 0) ∧ Below w.heap.size w w' := by
  have HG : Hid _ := h
  have HT : Hid (∀ u r, G[u]? = some r → ∀ x ∈ r, x < G.length ∧ τ u < τ x) := hτ
  have hd : d < w.heap.size := World.block_lt_of_cell? _ _ hc
  clear h hτ
  go_enter Ybaz.func45, Ybaz.ntmps45
  go_wp2_with fail
  obtain ⟨W1, hW1⟩ : ∃ z : World, z = w.alloc (.cells #[.pointer (some ⟨d, 0, none⟩)] 79) := ⟨_, rfl⟩
  rw [← hW1]
  have B1 : Below w.heap.size w W1 := by rw [hW1]; exact (Upd.alloc [] w _).below (Nat.le_refl _) (by simp)
  have b1 : W1.cell? ⟨w.heap.size, 0, none⟩ = some (.pointer (some ⟨d, 0, none⟩)) := by rw [hW1]; exact (Blk.new w #[.pointer (some ⟨d, 0, none⟩)] 79).cell 0
  have z1 : w.heap.size < W1.heap.size := by rw [hW1]; simp
  have G1 : Hid _ := HG.out.below B1
  have c1 : W1.cell? ⟨d, 6, none⟩ = some (.slice none 0 0) := (B1.cell hd).trans hc
  clear hW1
  refine (clone46 W1 d 2 G J G1.out (by omega)).mono ?_
  rintro e w2 ⟨aS, kS, aJ, kJ, rfl, g1, g2, g3, g4, B2⟩
  have b2 := (B2.cell z1).trans b1
  have c2 := (B2.cell (p := ⟨d, 6, none⟩) (by show d < _; omega)).trans c1
  have z2 := B2.size
  have BB2 : Hid (Below w.heap.size w w2) := B1.trans (B2.mono (by omega))
  have GB : Hid _ := g1.boxed g2 g3 g4
  clear g1 g2 g3 g4 B1 B2 b1 c1
  go_upto_region 2 with fail
  obtain ⟨W3, hW3⟩ : ∃ z : World, z = w2.alloc (.cells #[.slice aS G.length kS, .slice aJ G.length kJ] 88) := ⟨_, rfl⟩
  rw [← hW3] at GB ⊢
  have B3 : Below w2.heap.size w2 W3 := by rw [hW3]; exact (Upd.alloc [] w2 _).below (Nat.le_refl _) (by simp)
  have b3 := (B3.cell (p := ⟨w.heap.size, 0, none⟩) (by show w.heap.size < _; omega)).trans b2
  have c3 := (B3.cell (p := ⟨d, 6, none⟩) (by show d < _; omega)).trans c2
  have z3 : w2.heap.size < W3.heap.size := by rw [hW3]; simp
  have BB3 : Hid (Below w.heap.size w W3) := BB2.out.trans (B3.mono (by omega))
  clear hW3 B3 b2 c2
  go_wp2_with fail
  refine wp_loop_once ?_
  go_wp2_with fail
  refine (comp15 W3 w2.heap.size 0 G J GB.out τ HT.out hl hwt).mono ?_
  rintro e w4 ⟨vS, cmp, siz, fS, rfl, s1, s2, s3, s4, s5, B4⟩
  have b4 := (B4.cell (p := ⟨w.heap.size, 0, none⟩) (by show w.heap.size < _; omega)).trans b3
  have c4 := (B4.cell (p := ⟨d, 6, none⟩) (by show d < _; omega)).trans c3
  have z4 := B4.size
  have BB4 : Hid (Below w.heap.size w w4) := BB3.out.trans (B4.mono (by omega))
  have S1 : Hid _ := s1
  have S3 : Hid (∀ x, x < G.length → ∃ c : Nat, cmp[x]? = some (c : Int) ∧ c < siz.length) := s3
  clear s1 s2 s3 s4 s5 B4 b3 c3 GB
  have hmm := @run_makeMap Ybaz.prog
  go_upto_region 18 with fail
  obtain ⟨W5, hW5⟩ : ∃ z : World, z = w4.alloc (.map #[] 0) := ⟨_, rfl⟩
  rw [← hW5]
  have B5 : Below w4.heap.size w4 W5 := by rw [hW5]; exact (Upd.alloc [] w4 _).below (Nat.le_refl _) (by simp)
  have b5 := (B5.cell (p := ⟨w.heap.size, 0, none⟩) (by show w.heap.size < _; omega)).trans b4
  have c5 := (B5.cell (p := ⟨d, 6, none⟩) (by show d < _; omega)).trans c4
  have z5 : W5.heap.size = w4.heap.size + 1 := by rw [hW5]; simp
  have BB5 : Hid (Below w.heap.size w W5) := BB4.out.trans (B5.mono (by omega))
  have M5 := MapAt.new w4 (ik .i64)
  rw [← hW5] at M5
  clear hW5 b4 c4
  go_wp2_with fail
  refine wp_loop_once ?_
  go_wp2_with fail
  obtain ⟨W6, hW6⟩ : ∃ z : World, z = W5.alloc (.map #[] 0) := ⟨_, rfl⟩
  rw [← hW6]
  have U6 : Upd [] W5 W6 := by rw [hW6]; exact Upd.alloc _ _ _
  have M6 : Hid (MapAt W6 (ik .i64) w4.heap.size (fun _ => none)) := M5.keep U6 (by simp)
  have B6 : Below w4.heap.size w4 W6 := B5.trans (U6.below (by omega) (by simp))
  have BB6 : Hid (Below w.heap.size w W6) := BB4.out.trans (B6.mono (by omega))
  have S6 : Hid (∀ x, x < G.length → ∃ c : Nat, W6.cell? ⟨W3.heap.size + 4, x, none⟩ = some (.int .i64 c)) := by
    intro x hx
    obtain ⟨c, q1, q2⟩ := S3.out x hx
    obtain ⟨b, e1, _, e3⟩ := S1.out.get (j := x) (v := iI c) (by simp [q1])
    injection e1 with e1
    injection e1 with e1
    subst e1
    exact ⟨c, (B6.cell (World.block_lt_of_cell? _ _ e3)).trans e3⟩
  clear hW6 U6 M5 B5 B6 b5 c5 BB5 BB4 S1 S3
  go_loopw [99] (fun t99 wr => ∃ k : Nat, k ≤ G.length ∧ t99 = .int .i64 k ∧ wr = W6) (fun u _ => G.length - (intOf u).toNat)
  case atStart => exact ⟨0, by omega, rfl, rfl⟩
  case round =>
    obtain ⟨k, hk, rfl, rfl⟩ := hrel
    by_cases hlt : k < G.length
    · obtain ⟨c, hc9⟩ := S6.out k hlt
      go_wp2_with (at_lookup; refine wpList_look1 rfl (.tmp 104) (.tmp 105) 183 rfl Ybaz.underlying183 (intKeys Ybaz.underlying3) w4.heap.size _ M6.out c zero83 rfl rfl (.slice none 0 0) rfl ?_)
      exact ⟨⟨k + 1, by omega, by go_num, by first | trivial | rfl⟩, by simp [intOf]; omega⟩
    · have hk2 : k = G.length := by omega
      subst hk2
      go_wp2_with fail
      refine wp_loop_once ?_
      go_wp2_with fail
      go_ret
      exact ⟨rfl, BB6.out⟩
end Go.Proofs.YbulkctquGreatFmt

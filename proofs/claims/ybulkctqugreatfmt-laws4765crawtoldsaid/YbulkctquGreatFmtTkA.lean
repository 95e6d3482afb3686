/-
  takeUp's comparators.
-/
import Derived.Test.YbulkctquGreatFmtStable
import Derived.Test.YbulkctquGreatFmtRws
import Derived.BigQuiet
namespace Go.Proofs.YbulkctquGreatFmt
open Go.ChangeShapes Go.WideShapes Go.ChangeAt Go.RowKit Go.Ord
set_option linter.unusedVariables false

set_option maxRecDepth 100000 in
theorem byPos76 (W : World) (bp bq m cap t u pt pu : Nat) (hm : m < 1000) (ht : t < m) (hu : u < m) (hc : W.cell? ⟨bp, 0, none⟩ = some (.slice (some ⟨bq, 0, none⟩) m cap)) (h1 : W.cell? ⟨bq, t, none⟩ = some (.int .i64 pt)) (h2 : W.cell? ⟨bq, u, none⟩ = some (.int .i64 pu)) :
    Calls Ybaz.prog 76 #[.int .i64 t, .int .i64 u, .pointer (some ⟨bp, 0, none⟩)] W fun e w' => e = .returned (.int .i64 (cmpZ pt pu)) ∧ ∃ q, w' = W.drewN q := by
  go_enter Ybaz.func76, Ybaz.ntmps76
  go_wp2_with fail
  go_big_quiet ((go_at_call 33; refine Calls.quiet_of_same (cmpInt _ _ _)))
  go_wp2_with fail
  go_ret
  exact ⟨rfl, _, rfl⟩
set_option maxRecDepth 100000 in
theorem cmp77 (W : World) (bp bq m cap : Nat) (hm : m < 1000) (hc : W.cell? ⟨bp, 0, none⟩ = some (.slice (some ⟨bq, 0, none⟩) m cap)) (bf bo : Nat) (hf : W.cell? ⟨bf, 0, none⟩ = some (.func (.func 76) #[] #[.pointer (some ⟨bp, 0, none⟩)]))
    (bw n cw : Nat) (hn : n < 1000) (ho : W.cell? ⟨bo, 0, none⟩ = some (.slice (some ⟨bw, 0, none⟩) n cw)) (i j t u pt pu : Nat) (hi : i < n) (hj : j < n) (ht : t < m) (hu : u < m)
    (a1 : W.cell? ⟨bw, i, none⟩ = some (.int .i64 t)) (a2 : W.cell? ⟨bw, j, none⟩ = some (.int .i64 u)) (h1 : W.cell? ⟨bq, t, none⟩ = some (.int .i64 pt)) (h2 : W.cell? ⟨bq, u, none⟩ = some (.int .i64 pu)) :
    Calls Ybaz.prog 77 #[.int .i64 i, .int .i64 j, .pointer (some ⟨bf, 0, none⟩), .pointer (some ⟨bo, 0, none⟩)] W fun e w' => e = .returned (.int .i64 (cmpZ pt pu)) ∧ ∃ q, w' = W.drewN q := by
  have K : Hid (∀ q, Calls Ybaz.prog 76 #[.int .i64 t, .int .i64 u, .pointer (some ⟨bp, 0, none⟩)] (W.drewN q) fun e w' => e = .returned (.int .i64 (cmpZ pt pu)) ∧ ∃ r, w' = (W.drewN q).drewN r) := fun q => byPos76 (W.drewN q) bp bq m cap t u pt pu hm ht hu hc h1 h2
  go_enter Ybaz.func77, Ybaz.ntmps77
  go_wp2_with fail
  go_big_quiet ((go_at_call 76; refine Calls.quiet_of (K.out _)))
  go_wp2_with fail
  go_ret
  exact ⟨rfl, _, rfl⟩
set_option maxRecDepth 100000 in
theorem cmp80 (W : World) (bp bq m cap : Nat) (hm : m < 1000) (hc : W.cell? ⟨bp, 0, none⟩ = some (.slice (some ⟨bq, 0, none⟩) m cap)) (bo : Nat)
    (bw n cw : Nat) (hn : n < 1000) (ho : W.cell? ⟨bo, 0, none⟩ = some (.slice (some ⟨bw, 0, none⟩) n cw)) (i t pt x : Nat) (hi : i < n) (ht : t < m)
    (a1 : W.cell? ⟨bw, i, none⟩ = some (.int .i64 t)) (h1 : W.cell? ⟨bq, t, none⟩ = some (.int .i64 pt)) :
    Calls Ybaz.prog 80 #[.int .i64 i, .int .i64 x, .pointer (some ⟨bp, 0, none⟩), .pointer (some ⟨bo, 0, none⟩)] W fun e w' => e = .returned (.int .i64 (cmpZ pt x)) ∧ ∃ q, w' = W.drewN q := by
  go_enter Ybaz.func80, Ybaz.ntmps80
  go_wp2_with fail
  go_big_quiet ((go_at_call 33; refine Calls.quiet_of_same (cmpInt _ _ _)))
  go_wp2_with fail
  go_ret
  exact ⟨rfl, _, rfl⟩
end Go.Proofs.YbulkctquGreatFmt

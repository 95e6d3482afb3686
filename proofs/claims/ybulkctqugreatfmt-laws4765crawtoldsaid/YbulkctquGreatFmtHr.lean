/-
  misread's closure 'here'; Misread's making.
-/
import Derived.Test.YbulkctquGreatFmtMis
import Derived.Test.YbulkctquGreatFmtMrP
namespace Go.Proofs.YbulkctquGreatFmt
open Go.ChangeShapes Go.WideShapes Go.ChangeAt Go.RowKit Go.Ord
set_option linter.unusedVariables false
attribute [-go_sem] Go.Instr.build

theorem bd56h (a b c : Int) (w : World) : (Instr.build 56 #[(0, .int .i64 a), (1, .int .i64 b), (2, .int .i64 c)]).run Ybaz.prog w = .ok (.agg #[.int .i64 a, .int .i64 b, .int .i64 c]) w := by kernel_rfl
theorem bd59 (a b c f a' b' c' : Int) (w : World) : (Instr.build 59 #[(0, .agg #[.int .i64 a, .int .i64 b, .int .i64 c]), (1, .int .u8 f), (2, .agg #[.int .i64 a', .int .i64 b', .int .i64 c'])]).run Ybaz.prog w = .ok (.agg #[.int .i64 a, .int .i64 b, .int .i64 c, .int .u8 f, .int .i64 a', .int .i64 b', .int .i64 c']) w := by kernel_rfl
set_option maxRecDepth 100000 in
theorem here27 (W : World) (p13 p15 : Nat) (s k ev : Int) (h1 : W.cell? ⟨p13, 0, none⟩ = some (.int .i64 s)) (h2 : W.cell? ⟨p15, 0, none⟩ = some (.int .i64 k)) :
    Calls Ybaz.prog 27 #[.int .i64 ev, .pointer (some ⟨p13, 0, none⟩), .pointer (some ⟨p15, 0, none⟩)] W fun e w' => e = .returned (.agg #[.int .i64 s, .int .i64 k, .int .i64 ev]) ∧ Upd [] W w' := by
  have hb := bd56h
  have H1 := World.block_lt_of_cell? _ _ h1
  have H2 := World.block_lt_of_cell? _ _ h2
  go_enter Ybaz.func27, Ybaz.ntmps27
  go_wp2_with fail
  refine bodyPost_ret (results_cell_row rfl _ _ W.heap.size 56 _ (0, 0) _ rfl (Blk.new _ _ _) Ybaz.underlying56 rfl (by kernel_rfl)) rfl ?_
  exact ⟨rfl, Upd.alloc _ _ _⟩
end Go.Proofs.YbulkctquGreatFmt

/-
  No cell of these rows narrows 'for every input' (looked for: loops, veiled, ifaces, maps, wideKeys, modest, calm, conditions, laid).
  DERIVED. THE GIVEN ROWS OF THIS SEAT. 1 by the template 'for every input the law returns true; each argument reads behind the call as it read before'; 0 by the template 'total and deterministic' (their statements: YbulkctquTotals.lean).
  GIVEN WITH THE SEED: the statements are not yours to turn. If you find one false, say at which input.
  Laid BY PROGRAM, IN A SANDBOX (cutbox-rows.mjs): the forced cells as the released guide's own fill.sh prints them over the translation b0ff884cb36c13e4… (all of the seat's roots in one cut). By AI agents, Wed Nov 11 2026. No macro, syntax, notation, axiom, sorry.
-/
import Derived.Test.YbulkctquChecked
import GoSem.Claim
import GoSem.ClaimJoined
import GoSem.ClaimMapViews
import Derived.JoinedTies
import Derived.KernelRfl
namespace Go.Proofs.Ybulkctqu
/- THE CELL 'sum', in the pinned program and in every row, IS THE sha256 OF THE DUMP (.gsa) THAT YbulkctquProg.lean LOADS. Nothing in Lean hashes anything: it is a label: what it is worth is what the hold of that sum in a sandbox is worth. -/
noncomputable def Yba.pinned : Pinned := { name := "ybulkctqu", sum := "b0ff884cb36c13e464a43c4e674bd06fc0bb5d1a8acac9089cb7affc3657e7e0", checked := Yba.checked }
namespace Rows
def none {H : Type} : Left H := { results := [], args := [] }

/-- 'ordinant.LawS4765BExact': WHATEVER THE INPUT: true; the input reads as it did. -/
def lawS4765BExactSpec : ChangeSpec := { name := "lawS4765BExact", fn := fun _ => fun
  | [d1, d2, d3] => { results := [.lit (.bool true)], args := [d1, d2, d3] }
  | _ => none }
def lawS4765BExactRow : OpenClaim := { program := "ybulkctqu", sum := "b0ff884cb36c13e464a43c4e674bd06fc0bb5d1a8acac9089cb7affc3657e7e0", func := "example.com/ordinant/ordinant.LawS4765BExact", spec := "lawS4765BExact", plainKeys := false, apart := false }
def LawS4765BExactSaid : Prop := lawS4765BExactRow.holds Yba.pinned (OpenSpec.ofChange lawS4765BExactSpec)

/-- ITS FALSE NEIGHBOUR: 'it returns false'. Refute it at one input. -/
def lawS4765BExactWrong : ChangeSpec := { name := "lawS4765BExact", fn := fun _ => fun
  | [d1, d2, d3] => { results := [.lit (.bool false)], args := [d1, d2, d3] }
  | _ => none }
def LawS4765BExactWrongFalsely : Prop := lawS4765BExactRow.holds Yba.pinned (OpenSpec.ofChange lawS4765BExactWrong)

end Rows
end Go.Proofs.Ybulkctqu

/-
  No cell of these rows narrows 'for every input' (looked for: loops, veiled, ifaces, maps, wideKeys, modest, calm, conditions, laid).
  DERIVED. THE GIVEN ROWS OF THIS SEAT. 2 by the template 'for every input the law returns true; each argument reads behind the call as it read before'; 0 by the template 'total and deterministic' (their statements: YbulkctvqTotals.lean).
  GIVEN WITH THE SEED: the statements are not yours to turn. If you find one false, say at which input.
  Laid BY PROGRAM, IN A SANDBOX (cutbox-rows.mjs): the forced cells as the released guide's own fill.sh prints them over the translation f9108cbfa3e1f315… (all of the seat's roots in one cut). By AI agents, Wed Nov 11 2026. No macro, syntax, notation, axiom, sorry.
-/
import Derived.Test.YbulkctvqChecked
import GoSem.Claim
import GoSem.ClaimJoined
import GoSem.ClaimMapViews
import Derived.JoinedTies
import Derived.KernelRfl
namespace Go.Proofs.Ybulkctvq
/- THE CELL 'sum', in the pinned program and in every row, IS THE sha256 OF THE DUMP (.gsa) THAT YbulkctvqProg.lean LOADS. Nothing in Lean hashes anything: it is a label: what it is worth is what the hold of that sum in a sandbox is worth. -/
noncomputable def Yba.pinned : Pinned := { name := "ybulkctvq", sum := "f9108cbfa3e1f315c9d29598b7caa9cf4b95ac790c73fe5083b7aff5a4d5fca3", checked := Yba.checked }
namespace Rows
def none {H : Type} : Left H := { results := [], args := [] }

/-- 'sfv.LawS4774CModel': WHATEVER THE INPUT: true; the input reads as it did. -/
def lawS4774CModelSpec : ChangeSpec := { name := "lawS4774CModel", fn := fun _ => fun
  | [d1, d2, d3] => { results := [.lit (.bool true)], args := [d1, d2, d3] }
  | _ => none }
def lawS4774CModelRow : OpenClaim := { program := "ybulkctvq", sum := "f9108cbfa3e1f315c9d29598b7caa9cf4b95ac790c73fe5083b7aff5a4d5fca3", func := "example.com/vermes/vermes/internal/sfv.LawS4774CModel", spec := "lawS4774CModel", apart := false }
def LawS4774CModelSaid : Prop := lawS4774CModelRow.holds Yba.pinned (OpenSpec.ofChange lawS4774CModelSpec)

/-- ITS FALSE NEIGHBOUR: 'it returns false'. Refute it at one input. -/
def lawS4774CModelWrong : ChangeSpec := { name := "lawS4774CModel", fn := fun _ => fun
  | [d1, d2, d3] => { results := [.lit (.bool false)], args := [d1, d2, d3] }
  | _ => none }
def LawS4774CModelWrongFalsely : Prop := lawS4774CModelRow.holds Yba.pinned (OpenSpec.ofChange lawS4774CModelWrong)

/-- 'sfv.LawS4774CCtors': WHATEVER THE INPUT: true; the input reads as it did. -/
def lawS4774CCtorsSpec : ChangeSpec := { name := "lawS4774CCtors", fn := fun _ => fun
  | [d1, d2, d3] => { results := [.lit (.bool true)], args := [d1, d2, d3] }
  | _ => none }
def lawS4774CCtorsRow : OpenClaim := { program := "ybulkctvq", sum := "f9108cbfa3e1f315c9d29598b7caa9cf4b95ac790c73fe5083b7aff5a4d5fca3", func := "example.com/vermes/vermes/internal/sfv.LawS4774CCtors", spec := "lawS4774CCtors", inPlace := ["math.Float64frombits", "math.Float64bits"], apart := false }
def LawS4774CCtorsSaid : Prop := lawS4774CCtorsRow.holds Yba.pinned (OpenSpec.ofChange lawS4774CCtorsSpec)

/-- ITS FALSE NEIGHBOUR: 'it returns false'. Refute it at one input. -/
def lawS4774CCtorsWrong : ChangeSpec := { name := "lawS4774CCtors", fn := fun _ => fun
  | [d1, d2, d3] => { results := [.lit (.bool false)], args := [d1, d2, d3] }
  | _ => none }
def LawS4774CCtorsWrongFalsely : Prop := lawS4774CCtorsRow.holds Yba.pinned (OpenSpec.ofChange lawS4774CCtorsWrong)

end Rows
end Go.Proofs.Ybulkctvq

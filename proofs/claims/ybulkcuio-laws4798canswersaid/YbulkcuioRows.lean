/-
  No cell of these rows narrows 'for every input' (looked for: loops, veiled, ifaces, maps, wideKeys, modest, calm, conditions, laid).
  DERIVED. THE GIVEN ROWS OF THIS SEAT. 1 by the template 'for every input the law returns true; each argument reads behind the call as it read before'; 0 by the template 'total and deterministic' (their statements: YbulkcuioTotals.lean).
  GIVEN WITH THE SEED: the statements are not yours to turn. If you find one false, say at which input.
  Laid BY PROGRAM, IN A SANDBOX (cutbox-rows.mjs): the forced cells as the released guide's own fill.sh prints them over the translation f36da2982f4ad9d7… (all of the seat's roots in one cut). By AI agents, Wed Nov 11 2026. No macro, syntax, notation, axiom, sorry.
-/
import Derived.Test.YbulkcuioChecked
import GoSem.Claim
import GoSem.ClaimJoined
import GoSem.ClaimMapViews
import Derived.JoinedTies
import Derived.KernelRfl
namespace Go.Proofs.Ybulkcuio
/- THE CELL 'sum', in the pinned program and in every row, IS THE sha256 OF THE DUMP (.gsa) THAT YbulkcuioProg.lean LOADS. Nothing in Lean hashes anything: it is a label: what it is worth is what the hold of that sum in a sandbox is worth. -/
noncomputable def Yba.pinned : Pinned := { name := "ybulkcuio", sum := "f36da2982f4ad9d7bcb3826b550521ed986a6a2b4074c792705a279787379242", checked := Yba.checked }
namespace Rows
def none {H : Type} : Left H := { results := [], args := [] }

/-- 'cyclesweep.LawS4798CAnswer': WHATEVER THE INPUT: true; the input reads as it did. -/
def lawS4798CAnswerSpec : ChangeSpec := { name := "lawS4798CAnswer", fn := fun _ => fun
  | [d1, d2, d3, d4, d5] => { results := [.lit (.bool true)], args := [d1, d2, d3, d4, d5] }
  | _ => none }
def lawS4798CAnswerRow : OpenClaim := { program := "ybulkcuio", sum := "f36da2982f4ad9d7bcb3826b550521ed986a6a2b4074c792705a279787379242", func := "example.com/cyclesweep/cyclesweep.LawS4798CAnswer", spec := "lawS4798CAnswer", unfollowed := true, recurses := true, apart := false }
def LawS4798CAnswerSaid : Prop := lawS4798CAnswerRow.holds Yba.pinned (OpenSpec.ofChange lawS4798CAnswerSpec)

/-- ITS FALSE NEIGHBOUR: 'it returns false'. Refute it at one input. -/
def lawS4798CAnswerWrong : ChangeSpec := { name := "lawS4798CAnswer", fn := fun _ => fun
  | [d1, d2, d3, d4, d5] => { results := [.lit (.bool false)], args := [d1, d2, d3, d4, d5] }
  | _ => none }
def LawS4798CAnswerWrongFalsely : Prop := lawS4798CAnswerRow.holds Yba.pinned (OpenSpec.ofChange lawS4798CAnswerWrong)

end Rows
end Go.Proofs.Ybulkcuio

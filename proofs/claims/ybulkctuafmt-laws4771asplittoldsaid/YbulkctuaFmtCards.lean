/-
  DERIVED. GIVEN WITH THE SEED: THE CARDS: each row of YbulkctuaFmtRows.lean that lists a variable, with what it lists TIED to the program's text (the seventh form; the later family's looks); each row that meets fmt, with fmt's text TOLD by the authors' own Lean function (tested against real Go, not proved from fmt's source: count such statements apart). THE CARD IS WHAT COUNTS. Prove the row's statement (the work); the ties are given (YbulkctuaFmtTie.lean); close each card by the builder's one call (the guide's Derived/Test/ToyasCard.lean, 'card_holds'). Laid BY PROGRAM, IN A SANDBOX (cutbox-door.mjs). By AI agents, Wed Nov 11 2026. No macro, syntax, notation, axiom, sorry.
-/
import Derived.Test.YbulkctuaFmtRows
import GoSem.ClaimSeven
namespace Go.Proofs.YbulkctuaFmt
namespace Rows

/-- THE TOLD CARD OF 'tidelock.LawS4771ARead'. -/
def lawS4771AReadCard : Claim7 := { stood := { row := lawS4771AReadRow, standIns := [], harness := (true, "fea716a68d01d0ef6e83d80d19aadddf8fd12214c578980e07c7990933d3994a"), looks := true }, told := true, goes := false }
def LawS4771AReadToldSaid : Prop := Claim7.holds Ybaf.pinned (.plain (OpenSpec.ofChange lawS4771AReadSpec)) lawS4771AReadCard
/-- ITS FALSE NEIGHBOUR. Refute it at one input. -/
def LawS4771AReadToldWrongFalsely : Prop := Claim7.holds Ybaf.pinned (.plain (OpenSpec.ofChange lawS4771AReadWrong)) lawS4771AReadCard

/-- THE TOLD CARD OF 'tidelock.LawS4771ASplit'. -/
def lawS4771ASplitCard : Claim7 := { stood := { row := lawS4771ASplitRow, standIns := [], harness := (true, "fea716a68d01d0ef6e83d80d19aadddf8fd12214c578980e07c7990933d3994a"), looks := true }, told := true, goes := false }
def LawS4771ASplitToldSaid : Prop := Claim7.holds Ybaf.pinned (.plain (OpenSpec.ofChange lawS4771ASplitSpec)) lawS4771ASplitCard
/-- ITS FALSE NEIGHBOUR. Refute it at one input. -/
def LawS4771ASplitToldWrongFalsely : Prop := Claim7.holds Ybaf.pinned (.plain (OpenSpec.ofChange lawS4771ASplitWrong)) lawS4771ASplitCard

/-- THE TOLD AND TIED CARD OF 'node.LawS4771BValid'. -/
def lawS4771BValidCard : Claim7 := { stood := { row := lawS4771BValidRow, standIns := [], harness := (true, "fea716a68d01d0ef6e83d80d19aadddf8fd12214c578980e07c7990933d3994a"), looks := true }, told := true, laidByText := true, laidKinds := [.data, .data, .data, .called, .called, .called], laidTests := true, laidLooks := .later, goes := false }
def LawS4771BValidToldSaid : Prop := Claim7.holds Ybaf.pinned (.plain (OpenSpec.ofChange lawS4771BValidSpec)) lawS4771BValidCard
/-- ITS FALSE NEIGHBOUR. Refute it at one input. -/
def LawS4771BValidToldWrongFalsely : Prop := Claim7.holds Ybaf.pinned (.plain (OpenSpec.ofChange lawS4771BValidWrong)) lawS4771BValidCard

/-- THE TOLD AND TIED CARD OF 'node.LawS4771BRefusals'. -/
def lawS4771BRefusalsCard : Claim7 := { stood := { row := lawS4771BRefusalsRow, standIns := [], harness := (true, "fea716a68d01d0ef6e83d80d19aadddf8fd12214c578980e07c7990933d3994a"), looks := true }, told := true, laidByText := true, laidKinds := [.data, .data, .data, .called, .called, .called], laidTests := true, laidLooks := .later, goes := false }
def LawS4771BRefusalsToldSaid : Prop := Claim7.holds Ybaf.pinned (.plain (OpenSpec.ofChange lawS4771BRefusalsSpec)) lawS4771BRefusalsCard
/-- ITS FALSE NEIGHBOUR. Refute it at one input. -/
def LawS4771BRefusalsToldWrongFalsely : Prop := Claim7.holds Ybaf.pinned (.plain (OpenSpec.ofChange lawS4771BRefusalsWrong)) lawS4771BRefusalsCard
end Rows
end Go.Proofs.YbulkctuaFmt

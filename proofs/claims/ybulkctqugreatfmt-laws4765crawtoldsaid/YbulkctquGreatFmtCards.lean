/-
  DERIVED. GIVEN WITH THE SEED: THE CARDS: each row of YbulkctquGreatFmtRows.lean that lists a variable, with what it lists TIED to the program's text (the seventh form; the later family's looks); each row that meets fmt, with fmt's text TOLD by the authors' own Lean function (tested against real Go, not proved from fmt's source: count such statements apart). THE CARD IS WHAT COUNTS. Prove the row's statement (the work); the ties are given (YbulkctquGreatFmtTie.lean); close each card by the builder's one call (the guide's Derived/Test/ToyasCard.lean, 'card_holds'). Laid BY PROGRAM, IN A SANDBOX (cutbox-door.mjs). By AI agents, Wed Nov 11 2026. No macro, syntax, notation, axiom, sorry.
-/
import Derived.Test.YbulkctquGreatFmtRows
import GoSem.ClaimSeven
namespace Go.Proofs.YbulkctquGreatFmt
namespace Rows

/-- THE TOLD AND TIED CARD OF 'ordinant.LawS4765CRaw'. -/
def lawS4765CRawCard : Claim7 := { stood := { row := lawS4765CRawRow, standIns := [], harness := (true, "f872b4e72c77f246e738441a3ac6a47d1cca91bc786c4ebed9d71e8effb39f3f"), looks := true }, told := true, laidByText := true, laidKinds := [.data, .data, .data], laidTests := true, laidLooks := .later, goes := false }
def LawS4765CRawToldSaid : Prop := Claim7.holds Ybaz.pinned (.plain (OpenSpec.ofChange lawS4765CRawSpec)) lawS4765CRawCard
/-- ITS FALSE NEIGHBOUR. Refute it at one input. -/
def LawS4765CRawToldWrongFalsely : Prop := Claim7.holds Ybaz.pinned (.plain (OpenSpec.ofChange lawS4765CRawWrong)) lawS4765CRawCard

/-- THE TOLD AND TIED CARD OF 'ordinant.LawS4765CSerial'. -/
def lawS4765CSerialCard : Claim7 := { stood := { row := lawS4765CSerialRow, standIns := [], harness := (true, "f872b4e72c77f246e738441a3ac6a47d1cca91bc786c4ebed9d71e8effb39f3f"), looks := true }, told := true, laidByText := true, laidKinds := [.data, .data, .data], laidTests := true, laidLooks := .later, goes := false }
def LawS4765CSerialToldSaid : Prop := Claim7.holds Ybaz.pinned (.plain (OpenSpec.ofChange lawS4765CSerialSpec)) lawS4765CSerialCard
/-- ITS FALSE NEIGHBOUR. Refute it at one input. -/
def LawS4765CSerialToldWrongFalsely : Prop := Claim7.holds Ybaz.pinned (.plain (OpenSpec.ofChange lawS4765CSerialWrong)) lawS4765CSerialCard
end Rows
end Go.Proofs.YbulkctquGreatFmt

/-
  DERIVED. GIVEN WITH THE SEED: THE CARDS: each row of YbulkmjkFmtRows.lean that lists a variable, with what it lists TIED to the program's text (the seventh form; the later family's looks); each row that meets fmt, with fmt's text TOLD by the authors' own Lean function (tested against real Go, not proved from fmt's source: count such statements apart). THE CARD IS WHAT COUNTS. Prove the row's statement (the work); the ties are given (YbulkmjkFmtTie.lean); close each card by the builder's one call (the guide's Derived/Test/ToyasCard.lean, 'card_holds'). Laid BY PROGRAM, IN A SANDBOX (cutbox-door.mjs). By AI agents, Wed Nov 11 2026. No macro, syntax, notation, axiom, sorry.
-/
import Derived.Test.YbulkmjkFmtRows
import GoSem.ClaimSeven
namespace Go.Proofs.YbulkmjkFmt
namespace Rows

/-- THE TOLD AND TIED CARD OF 'schedule.LawS0647AParse'. -/
def lawS0647AParseCard : Claim7 := { stood := { row := lawS0647AParseRow, standIns := [], harness := (true, "6ec607cad4647660a643a8d9087d5b5fcebd0ebfc93d128a8edf766c59e1c646"), looks := true }, told := true, laidByText := true, laidKinds := [.sentinel, .sentinel, .sentinel], laidTests := true, laidLooks := .later, goes := false }
def LawS0647AParseToldSaid : Prop := Claim7.holds Ybaf.pinned (.plain (OpenSpec.ofChange lawS0647AParseSpec)) lawS0647AParseCard
/-- ITS FALSE NEIGHBOUR. Refute it at one input. -/
def LawS0647AParseToldWrongFalsely : Prop := Claim7.holds Ybaf.pinned (.plain (OpenSpec.ofChange lawS0647AParseWrong)) lawS0647AParseCard

/-- THE TOLD AND TIED CARD OF 'schedule.LawS0647CExact'. -/
def lawS0647CExactCard : Claim7 := { stood := { row := lawS0647CExactRow, standIns := [], harness := (true, "6ec607cad4647660a643a8d9087d5b5fcebd0ebfc93d128a8edf766c59e1c646"), looks := true }, told := true, laidByText := true, laidKinds := [.data, .listed, .pinned], laidTests := true, laidLooks := .later, goes := false }
def LawS0647CExactToldSaid : Prop := Claim7.holds Ybaf.pinned (.plain (OpenSpec.ofChange lawS0647CExactSpec)) lawS0647CExactCard
/-- ITS FALSE NEIGHBOUR. Refute it at one input. -/
def LawS0647CExactToldWrongFalsely : Prop := Claim7.holds Ybaf.pinned (.plain (OpenSpec.ofChange lawS0647CExactWrong)) lawS0647CExactCard

/-- THE TOLD AND TIED CARD OF 'schedule.LawS0647CASCII'. -/
def lawS0647CASCIICard : Claim7 := { stood := { row := lawS0647CASCIIRow, standIns := [], harness := (true, "6ec607cad4647660a643a8d9087d5b5fcebd0ebfc93d128a8edf766c59e1c646"), looks := true }, told := true, laidByText := true, laidKinds := [.data, .listed, .pinned], laidTests := true, laidLooks := .later, goes := false }
def LawS0647CASCIIToldSaid : Prop := Claim7.holds Ybaf.pinned (.plain (OpenSpec.ofChange lawS0647CASCIISpec)) lawS0647CASCIICard
/-- ITS FALSE NEIGHBOUR. Refute it at one input. -/
def LawS0647CASCIIToldWrongFalsely : Prop := Claim7.holds Ybaf.pinned (.plain (OpenSpec.ofChange lawS0647CASCIIWrong)) lawS0647CASCIICard
end Rows
end Go.Proofs.YbulkmjkFmt

/-
  DERIVED. GIVEN WITH THE SEED: THE CARDS: each row of YbulkclbwFmtRows.lean that lists a variable, with what it lists TIED to the program's text (the seventh form; the later family's looks); each row that meets fmt, with fmt's text TOLD by the authors' own Lean function (tested against real Go, not proved from fmt's source: count such statements apart). THE CARD IS WHAT COUNTS. Prove the row's statement (the work); the ties are given (YbulkclbwFmtTie.lean); close each card by the builder's one call (the guide's Derived/Test/ToyasCard.lean, 'card_holds'). Laid BY PROGRAM, IN A SANDBOX (cutbox-door.mjs). By AI agents, Wed Nov 11 2026. No macro, syntax, notation, axiom, sorry.
-/
import Derived.Test.YbulkclbwFmtRows
import GoSem.ClaimSeven
namespace Go.Proofs.YbulkclbwFmt
namespace Rows

/-- THE TOLD CARD OF 'resolvent.LawS4351AModel'. -/
def lawS4351AModelCard : Claim7 := { stood := { row := lawS4351AModelRow, standIns := [], harness := (true, "e949030a2833111d2ec4e9f352e25ee378b260b998c167f7428e6ccef9cc778b"), looks := true }, told := true, goes := false }
def LawS4351AModelToldSaid : Prop := Claim7.holds Ybaf.pinned (.plain (OpenSpec.ofChange lawS4351AModelSpec)) lawS4351AModelCard
/-- ITS FALSE NEIGHBOUR. Refute it at one input. -/
def LawS4351AModelToldWrongFalsely : Prop := Claim7.holds Ybaf.pinned (.plain (OpenSpec.ofChange lawS4351AModelWrong)) lawS4351AModelCard

/-- THE TOLD CARD OF 'syntax.LawS4351CModel'. -/
def lawS4351CModelCard : Claim7 := { stood := { row := lawS4351CModelRow, standIns := [], harness := (true, "e949030a2833111d2ec4e9f352e25ee378b260b998c167f7428e6ccef9cc778b"), looks := true }, told := true, goes := false }
def LawS4351CModelToldSaid : Prop := Claim7.holds Ybaf.pinned (.plain (OpenSpec.ofChange lawS4351CModelSpec)) lawS4351CModelCard
/-- ITS FALSE NEIGHBOUR. Refute it at one input. -/
def LawS4351CModelToldWrongFalsely : Prop := Claim7.holds Ybaf.pinned (.plain (OpenSpec.ofChange lawS4351CModelWrong)) lawS4351CModelCard

/-- THE TOLD CARD OF 'syntax.LawS4351CBuilt'. -/
def lawS4351CBuiltCard : Claim7 := { stood := { row := lawS4351CBuiltRow, standIns := [], harness := (true, "e949030a2833111d2ec4e9f352e25ee378b260b998c167f7428e6ccef9cc778b"), looks := true }, told := true, goes := false }
def LawS4351CBuiltToldSaid : Prop := Claim7.holds Ybaf.pinned (.plain (OpenSpec.ofChange lawS4351CBuiltSpec)) lawS4351CBuiltCard
/-- ITS FALSE NEIGHBOUR. Refute it at one input. -/
def LawS4351CBuiltToldWrongFalsely : Prop := Claim7.holds Ybaf.pinned (.plain (OpenSpec.ofChange lawS4351CBuiltWrong)) lawS4351CBuiltCard
end Rows
end Go.Proofs.YbulkclbwFmt

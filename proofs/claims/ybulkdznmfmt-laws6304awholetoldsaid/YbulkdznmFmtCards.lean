/-
  DERIVED. GIVEN WITH THE SEED: THE CARDS: each row of YbulkdznmFmtRows.lean that lists a variable, with what it lists TIED to the program's text (the seventh form; the later family's looks); each row that meets fmt, with fmt's text TOLD by the authors' own Lean function (tested against real Go, not proved from fmt's source: count such statements apart). THE CARD IS WHAT COUNTS. Prove the row's statement (the work); the ties are given (YbulkdznmFmtTie.lean); close each card by the builder's one call (the guide's Derived/Test/ToyasCard.lean, 'card_holds'). Laid BY PROGRAM, IN A SANDBOX (cutbox-door.mjs). By AI agents, Wed Nov 11 2026. No macro, syntax, notation, axiom, sorry.
-/
import Derived.Test.YbulkdznmFmtRows
import GoSem.ClaimSeven
namespace Go.Proofs.YbulkdznmFmt
namespace Rows

/-- THE TOLD AND TIED CARD OF 'keyturn.LawS6304AWhole'. -/
def lawS6304AWholeCard : Claim7 := { stood := { row := lawS6304AWholeRow, standIns := [], harness := (true, "7d4d81aacfe01816c853ccf7b6b3009a7601e0fcd595d06c799f1da905b5cb45"), looks := false }, told := true, laidByText := true, laidKinds := [.sentinel], laidTests := true, laidLooks := .later, goes := false }
def LawS6304AWholeToldSaid : Prop := Claim7.holds Ybaf.pinned (.plain (OpenSpec.ofChange lawS6304AWholeSpec)) lawS6304AWholeCard
/-- ITS FALSE NEIGHBOUR. Refute it at one input. -/
def LawS6304AWholeToldWrongFalsely : Prop := Claim7.holds Ybaf.pinned (.plain (OpenSpec.ofChange lawS6304AWholeWrong)) lawS6304AWholeCard
end Rows
end Go.Proofs.YbulkdznmFmt

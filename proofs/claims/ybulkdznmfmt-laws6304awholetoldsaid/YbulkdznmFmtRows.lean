/-
  NARROWER THAN 'FOR EVERY INPUT', by the rows' own cells (each row's printed sentence says how): LawS6304AWhole: laid.
  DERIVED. THE GIVEN ROWS OF THIS SEAT. 1 by the template 'for every input the law returns true; each argument reads behind the call as it read before'; 0 by the template 'total and deterministic' (their statements: YbulkdznmFmtTotals.lean).
  GIVEN WITH THE SEED: the statements are not yours to turn. If you find one false, say at which input.
  Laid BY PROGRAM, IN A SANDBOX (cutbox-rows.mjs): the forced cells as the released guide's own fill.sh prints them over the translation c4f527d39b8ab0d6… (all of the seat's roots in one cut). By AI agents, Wed Nov 11 2026. No macro, syntax, notation, axiom, sorry.
-/
import Derived.Test.YbulkdznmFmtChecked
import GoSem.Claim
import GoSem.ClaimJoined
import GoSem.ClaimMapViews
import Derived.JoinedTies
import Derived.KernelRfl
namespace Go.Proofs.YbulkdznmFmt
/- THE CELL 'sum', in the pinned program and in every row, IS THE sha256 OF THE DUMP (.gsa) THAT YbulkdznmFmtProg.lean LOADS. Nothing in Lean hashes anything: it is a label: what it is worth is what the hold of that sum in a sandbox is worth. -/
noncomputable def Ybaf.pinned : Pinned := { name := "ybulkdznmfmt", sum := "c4f527d39b8ab0d6fa82960b4a347aa3439b9a72655811a0bd7fe4438955ab7b", checked := Ybaf.checked }
namespace Rows
def none {H : Type} : Left H := { results := [], args := [] }

/- WHAT THE LISTED PACKAGE-LEVEL VARIABLES READ AS WHEN THE CALL BEGINS. Each datum BY PROGRAM (the guide's laid-datum.mjs) off the statement by which the dump's own 'gosem.cut.vars' lays the variable. In a bare row this is a premise. The card (YbulkdznmFmtCards.lean) ties it to the program's text. -/
def laid_io_ErrUnexpectedEOF {H : Type} : DataW H := .iface "*errors.errorString" (.ptr (.agg [.lit (.string [117, 110, 101, 120, 112, 101, 99, 116, 101, 100, 32, 69, 79, 70])]))

/-- 'keyturn.LawS6304AWhole': WHATEVER THE INPUT: true; the input reads as it did. -/
def lawS6304AWholeSpec : ChangeSpec := { name := "lawS6304AWhole", fn := fun _ => fun
  | [d1, d2, d3, d4, d5, d6, d7] => { results := [.lit (.bool true)], args := [d1, d2, d3, d4, d5, d6, d7] }
  | _ => none }
def lawS6304AWholeRow : OpenClaim := { program := "ybulkdznmfmt", sum := "c4f527d39b8ab0d6fa82960b4a347aa3439b9a72655811a0bd7fe4438955ab7b", func := "example.com/keyturn/keyturn.LawS6304AWhole", spec := "lawS6304AWhole", stops := ["fmt.errorf, its operands' methods called"], inPlace := ["fmt.errorf"], unfollowed := true, recurses := true, named := ["encoding/binary.BigEndian", "io.ErrUnexpectedEOF"], plainKeys := false, apart := false, laid := [("io.ErrUnexpectedEOF", laid_io_ErrUnexpectedEOF)] }
/-- NO THEOREM (fmt's text is open here; it may be false): for the released tool's asking of the row's closed facts alone. THE STATEMENT IS 'LawS6304AWholeToldSaid' (YbulkdznmFmtCards.lean). -/
def LawS6304AWholeFormAsk : Prop := lawS6304AWholeRow.holds Ybaf.pinned (OpenSpec.ofChange lawS6304AWholeSpec)

/-- ITS FALSE NEIGHBOUR: 'it returns false'. Refute it at one input. -/
def lawS6304AWholeWrong : ChangeSpec := { name := "lawS6304AWhole", fn := fun _ => fun
  | [d1, d2, d3, d4, d5, d6, d7] => { results := [.lit (.bool false)], args := [d1, d2, d3, d4, d5, d6, d7] }
  | _ => none }
def LawS6304AWholeWrongFormAsk : Prop := lawS6304AWholeRow.holds Ybaf.pinned (OpenSpec.ofChange lawS6304AWholeWrong)

end Rows
end Go.Proofs.YbulkdznmFmt

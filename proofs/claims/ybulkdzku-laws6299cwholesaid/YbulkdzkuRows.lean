/-
  No cell of these rows narrows 'for every input' (looked for: loops, veiled, ifaces, maps, wideKeys, modest, calm, conditions, laid).
  DERIVED. THE GIVEN ROWS OF THIS SEAT. 2 by the template 'for every input the law returns true; each argument reads behind the call as it read before'; 0 by the template 'total and deterministic' (their statements: YbulkdzkuTotals.lean).
  GIVEN WITH THE SEED: the statements are not yours to turn. If you find one false, say at which input.
  Laid BY PROGRAM, IN A SANDBOX (cutbox-rows.mjs): the forced cells as the released guide's own fill.sh prints them over the translation df6476f9f1301a86… (all of the seat's roots in one cut). By AI agents, Wed Nov 11 2026. No macro, syntax, notation, axiom, sorry.
-/
import Derived.Test.YbulkdzkuChecked
import GoSem.Claim
import GoSem.ClaimJoined
import GoSem.ClaimMapViews
import Derived.JoinedTies
import Derived.KernelRfl
namespace Go.Proofs.Ybulkdzku
/- THE CELL 'sum', in the pinned program and in every row, IS THE sha256 OF THE DUMP (.gsa) THAT YbulkdzkuProg.lean LOADS. Nothing in Lean hashes anything: it is a label: what it is worth is what the hold of that sum in a sandbox is worth. -/
noncomputable def Yba.pinned : Pinned := { name := "ybulkdzku", sum := "df6476f9f1301a8602bb8c195754fcd342f21c36411203e3c616d0ca3943303d", checked := Yba.checked }
namespace Rows
def none {H : Type} : Left H := { results := [], args := [] }

/-- 'tapewright.LawS6299AWhole': WHATEVER THE INPUT: true; the input reads as it did. -/
def lawS6299AWholeSpec : ChangeSpec := { name := "lawS6299AWhole", fn := fun _ => fun
  | [d1, d2, d3, d4, d5, d6, d7] => { results := [.lit (.bool true)], args := [d1, d2, d3, d4, d5, d6, d7] }
  | _ => none }
def lawS6299AWholeRow : OpenClaim := { program := "ybulkdzku", sum := "df6476f9f1301a8602bb8c195754fcd342f21c36411203e3c616d0ca3943303d", func := "example.com/tapewright/tapewright.LawS6299AWhole", spec := "lawS6299AWhole", apart := false }
def LawS6299AWholeSaid : Prop := lawS6299AWholeRow.holds Yba.pinned (OpenSpec.ofChange lawS6299AWholeSpec)

/-- ITS FALSE NEIGHBOUR: 'it returns false'. Refute it at one input. -/
def lawS6299AWholeWrong : ChangeSpec := { name := "lawS6299AWhole", fn := fun _ => fun
  | [d1, d2, d3, d4, d5, d6, d7] => { results := [.lit (.bool false)], args := [d1, d2, d3, d4, d5, d6, d7] }
  | _ => none }
def LawS6299AWholeWrongFalsely : Prop := lawS6299AWholeRow.holds Yba.pinned (OpenSpec.ofChange lawS6299AWholeWrong)

/-- 'tapewright.LawS6299CWhole': WHATEVER THE INPUT: true; the input reads as it did. -/
def lawS6299CWholeSpec : ChangeSpec := { name := "lawS6299CWhole", fn := fun _ => fun
  | [d1, d2, d3] => { results := [.lit (.bool true)], args := [d1, d2, d3] }
  | _ => none }
def lawS6299CWholeRow : OpenClaim := { program := "ybulkdzku", sum := "df6476f9f1301a8602bb8c195754fcd342f21c36411203e3c616d0ca3943303d", func := "example.com/tapewright/tapewright.LawS6299CWhole", spec := "lawS6299CWhole", apart := false }
def LawS6299CWholeSaid : Prop := lawS6299CWholeRow.holds Yba.pinned (OpenSpec.ofChange lawS6299CWholeSpec)

/-- ITS FALSE NEIGHBOUR: 'it returns false'. Refute it at one input. -/
def lawS6299CWholeWrong : ChangeSpec := { name := "lawS6299CWhole", fn := fun _ => fun
  | [d1, d2, d3] => { results := [.lit (.bool false)], args := [d1, d2, d3] }
  | _ => none }
def LawS6299CWholeWrongFalsely : Prop := lawS6299CWholeRow.holds Yba.pinned (OpenSpec.ofChange lawS6299CWholeWrong)

end Rows
end Go.Proofs.Ybulkdzku

/-
  No cell of these rows narrows 'for every input' (looked for: loops, veiled, ifaces, maps, wideKeys, modest, calm, conditions, laid).
  DERIVED. THE GIVEN ROWS OF THIS SEAT. 1 by the template 'for every input the law returns true; each argument reads behind the call as it read before'; 0 by the template 'total and deterministic' (their statements: YbulkdzlwTotals.lean).
  GIVEN WITH THE SEED: the statements are not yours to turn. If you find one false, say at which input.
  Laid BY PROGRAM, IN A SANDBOX (cutbox-rows.mjs): the forced cells as the released guide's own fill.sh prints them over the translation d8a48d0eb99507e4… (all of the seat's roots in one cut). By AI agents, Wed Nov 11 2026. No macro, syntax, notation, axiom, sorry.
-/
import Derived.Test.YbulkdzlwChecked
import GoSem.Claim
import GoSem.ClaimJoined
import GoSem.ClaimMapViews
import Derived.JoinedTies
import Derived.KernelRfl
namespace Go.Proofs.Ybulkdzlw
/- THE CELL 'sum', in the pinned program and in every row, IS THE sha256 OF THE DUMP (.gsa) THAT YbulkdzlwProg.lean LOADS. Nothing in Lean hashes anything: it is a label: what it is worth is what the hold of that sum in a sandbox is worth. -/
noncomputable def Yba.pinned : Pinned := { name := "ybulkdzlw", sum := "d8a48d0eb99507e406da81081b903555e767ad2c9af0a6255e110a7eed3bbee5", checked := Yba.checked }
namespace Rows
def none {H : Type} : Left H := { results := [], args := [] }

/-- 'rule.LawS6301CWhole': WHATEVER THE INPUT: true; the input reads as it did. -/
def lawS6301CWholeSpec : ChangeSpec := { name := "lawS6301CWhole", fn := fun _ => fun
  | [d1, d2, d3] => { results := [.lit (.bool true)], args := [d1, d2, d3] }
  | _ => none }
def lawS6301CWholeRow : OpenClaim := { program := "ybulkdzlw", sum := "d8a48d0eb99507e406da81081b903555e767ad2c9af0a6255e110a7eed3bbee5", func := "example.com/logins-to-locations/logins-to-locations/internal/rule.LawS6301CWhole", spec := "lawS6301CWhole", apart := false }
def LawS6301CWholeSaid : Prop := lawS6301CWholeRow.holds Yba.pinned (OpenSpec.ofChange lawS6301CWholeSpec)

/-- ITS FALSE NEIGHBOUR: 'it returns false'. Refute it at one input. -/
def lawS6301CWholeWrong : ChangeSpec := { name := "lawS6301CWhole", fn := fun _ => fun
  | [d1, d2, d3] => { results := [.lit (.bool false)], args := [d1, d2, d3] }
  | _ => none }
def LawS6301CWholeWrongFalsely : Prop := lawS6301CWholeRow.holds Yba.pinned (OpenSpec.ofChange lawS6301CWholeWrong)

end Rows
end Go.Proofs.Ybulkdzlw

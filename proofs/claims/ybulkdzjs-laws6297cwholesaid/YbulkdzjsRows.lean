/-
  No cell of these rows narrows 'for every input' (looked for: loops, veiled, ifaces, maps, wideKeys, modest, calm, conditions, laid).
  DERIVED. THE GIVEN ROWS OF THIS SEAT. 3 by the template 'for every input the law returns true; each argument reads behind the call as it read before'; 0 by the template 'total and deterministic' (their statements: YbulkdzjsTotals.lean).
  GIVEN WITH THE SEED: the statements are not yours to turn. If you find one false, say at which input.
  Laid BY PROGRAM, IN A SANDBOX (cutbox-rows.mjs): the forced cells as the released guide's own fill.sh prints them over the translation 26d1fdcb2dc6c705… (all of the seat's roots in one cut). By AI agents, Wed Nov 11 2026. No macro, syntax, notation, axiom, sorry.
-/
import Derived.Test.YbulkdzjsChecked
import GoSem.Claim
import GoSem.ClaimJoined
import GoSem.ClaimMapViews
import Derived.JoinedTies
import Derived.KernelRfl
namespace Go.Proofs.Ybulkdzjs
/- THE CELL 'sum', in the pinned program and in every row, IS THE sha256 OF THE DUMP (.gsa) THAT YbulkdzjsProg.lean LOADS. Nothing in Lean hashes anything: it is a label: what it is worth is what the hold of that sum in a sandbox is worth. -/
noncomputable def Yba.pinned : Pinned := { name := "ybulkdzjs", sum := "26d1fdcb2dc6c7050ef16949b427cbbdb91ca5ee12893c8a73fe3e25b0c101d3", checked := Yba.checked }
namespace Rows
def none {H : Type} : Left H := { results := [], args := [] }

/-- 'sim.LawS6297AWhole': WHATEVER THE INPUT: true; the input reads as it did. -/
def lawS6297AWholeSpec : ChangeSpec := { name := "lawS6297AWhole", fn := fun _ => fun
  | [d1, d2, d3] => { results := [.lit (.bool true)], args := [d1, d2, d3] }
  | _ => none }
def lawS6297AWholeRow : OpenClaim := { program := "ybulkdzjs", sum := "26d1fdcb2dc6c7050ef16949b427cbbdb91ca5ee12893c8a73fe3e25b0c101d3", func := "example.com/epsilon-accord/epsilon-accord/internal/sim.LawS6297AWhole", spec := "lawS6297AWhole", inPlace := ["math.Float64bits", "math.Float64frombits"], recurses := true, apart := false }
def LawS6297AWholeSaid : Prop := lawS6297AWholeRow.holds Yba.pinned (OpenSpec.ofChange lawS6297AWholeSpec)

/-- ITS FALSE NEIGHBOUR: 'it returns false'. Refute it at one input. -/
def lawS6297AWholeWrong : ChangeSpec := { name := "lawS6297AWhole", fn := fun _ => fun
  | [d1, d2, d3] => { results := [.lit (.bool false)], args := [d1, d2, d3] }
  | _ => none }
def LawS6297AWholeWrongFalsely : Prop := lawS6297AWholeRow.holds Yba.pinned (OpenSpec.ofChange lawS6297AWholeWrong)

/-- 'sim.LawS6297BWhole': WHATEVER THE INPUT: true; the input reads as it did. -/
def lawS6297BWholeSpec : ChangeSpec := { name := "lawS6297BWhole", fn := fun _ => fun
  | [d1, d2, d3, d4, d5, d6] => { results := [.lit (.bool true)], args := [d1, d2, d3, d4, d5, d6] }
  | _ => none }
def lawS6297BWholeRow : OpenClaim := { program := "ybulkdzjs", sum := "26d1fdcb2dc6c7050ef16949b427cbbdb91ca5ee12893c8a73fe3e25b0c101d3", func := "example.com/epsilon-accord/epsilon-accord/internal/sim.LawS6297BWhole", spec := "lawS6297BWhole", inPlace := ["math.Float64bits", "math.Float64frombits"], unfollowed := true, recurses := true, apart := false }
def LawS6297BWholeSaid : Prop := lawS6297BWholeRow.holds Yba.pinned (OpenSpec.ofChange lawS6297BWholeSpec)

/-- ITS FALSE NEIGHBOUR: 'it returns false'. Refute it at one input. -/
def lawS6297BWholeWrong : ChangeSpec := { name := "lawS6297BWhole", fn := fun _ => fun
  | [d1, d2, d3, d4, d5, d6] => { results := [.lit (.bool false)], args := [d1, d2, d3, d4, d5, d6] }
  | _ => none }
def LawS6297BWholeWrongFalsely : Prop := lawS6297BWholeRow.holds Yba.pinned (OpenSpec.ofChange lawS6297BWholeWrong)

/-- 'epsilon-accord.LawS6297CWhole': WHATEVER THE INPUT: true; the input reads as it did. -/
def lawS6297CWholeSpec : ChangeSpec := { name := "lawS6297CWhole", fn := fun _ => fun
  | [d1, d2, d3, d4, d5, d6, d7, d8, d9] => { results := [.lit (.bool true)], args := [d1, d2, d3, d4, d5, d6, d7, d8, d9] }
  | _ => none }
def lawS6297CWholeRow : OpenClaim := { program := "ybulkdzjs", sum := "26d1fdcb2dc6c7050ef16949b427cbbdb91ca5ee12893c8a73fe3e25b0c101d3", func := "example.com/epsilon-accord/epsilon-accord.LawS6297CWhole", spec := "lawS6297CWhole", inPlace := ["math.Float64frombits", "math.Float64bits"], recurses := true, apart := false }
def LawS6297CWholeSaid : Prop := lawS6297CWholeRow.holds Yba.pinned (OpenSpec.ofChange lawS6297CWholeSpec)

/-- ITS FALSE NEIGHBOUR: 'it returns false'. Refute it at one input. -/
def lawS6297CWholeWrong : ChangeSpec := { name := "lawS6297CWhole", fn := fun _ => fun
  | [d1, d2, d3, d4, d5, d6, d7, d8, d9] => { results := [.lit (.bool false)], args := [d1, d2, d3, d4, d5, d6, d7, d8, d9] }
  | _ => none }
def LawS6297CWholeWrongFalsely : Prop := lawS6297CWholeRow.holds Yba.pinned (OpenSpec.ofChange lawS6297CWholeWrong)

end Rows
end Go.Proofs.Ybulkdzjs

/- 6304A: errors.New. -/
import Derived.Test.YbulkdznmFmtK0
namespace Go.Proofs.YbulkdznmFmt.A
open Go.RowKit

set_option maxRecDepth 100000 in
set_option maxHeartbeats 2000000 in
theorem new_f (s : ByteArray) (w : World) : Calls Ybaf.prog 19 #[.string s] w fun e w' => (∃ T x, e = .returned (.iface T x)) ∧ Below w.heap.size w w' := by
  go_enter Ybaf.func19, Ybaf.ntmps19
  go_wp2_with fail
  go_ret
  exact ⟨⟨_, _, rfl⟩, (Below.refl _ _).alloc (Nat.le_refl _) _⟩
end Go.Proofs.YbulkdznmFmt.A

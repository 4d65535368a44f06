/- 6304A: fmt.Errorf at decodeKeyringBody's calls: a non-nil error comes back. -/
import Derived.Test.YbulkdznmFmtK5
import Derived.Test.YbulkdznmFmtKF
namespace Go.Proofs.YbulkdznmFmt.A
open Go.RowKit Go.Extern.Stop Go.Stop Go.Extern

set_option maxRecDepth 100000 in
set_option maxHeartbeats 4000000 in
theorem errorf1 (F : Interp) (nm : ByteArray) (b : Nat) (w : World) (hF : F.answers w.tape) (hc : w.cell? ⟨b, 0, none⟩ = some (.iface 9 (.string nm))) :
    Calls Ybaf.prog 17 #[.string { data := #[115, 99, 111, 112, 101, 32, 37, 113, 32, 105, 115, 32, 109, 105, 115, 110, 97, 109, 101, 100, 32, 111, 114, 32, 111, 117, 116, 32, 111, 102, 32, 111, 114, 100, 101, 114] }, .slice (some ⟨b, 0, none⟩) 1 1] w fun e w' => (∃ T x, e = .returned (.iface T x)) ∧ Below w.heap.size w w' := by
  have hF' := answers_open hF
  go_enter Ybaf.func17, Ybaf.ntmps17
  go_wp2
  apply rows_value Ybaf.nextTurns
  case hr =>
    go_simp
    exact ⟨rfl, rfl⟩
  case h =>
    go_wp2
    go_ret
    exact ⟨⟨_, _, rfl⟩, ((Below.refl _ _).drew).alloc (Nat.le_refl _) _⟩

set_option maxRecDepth 100000 in
set_option maxHeartbeats 4000000 in
theorem errorf2 (F : Interp) (nm : ByteArray) (n : Int) (b : Nat) (w : World) (hF : F.answers w.tape) (hc : w.cell? ⟨b, 0, none⟩ = some (.iface 9 (.string nm))) (hd : w.cell? ⟨b, 1, none⟩ = some (.iface 52 (.int .u32 n))) :
    Calls Ybaf.prog 17 #[.string { data := #[115, 99, 111, 112, 101, 32, 37, 115, 32, 104, 111, 108, 100, 115, 32, 37, 100, 32, 107, 101, 121, 115] }, .slice (some ⟨b, 0, none⟩) 2 2] w fun e w' => (∃ T x, e = .returned (.iface T x)) ∧ Below w.heap.size w w' := by
  have hF' := answers_open hF
  go_enter Ybaf.func17, Ybaf.ntmps17
  go_wp2
  apply rows_value Ybaf.nextTurns
  case hr =>
    go_simp
    exact ⟨rfl, rfl⟩
  case h =>
    go_wp2
    go_ret
    exact ⟨⟨_, _, rfl⟩, ((Below.refl _ _).drew).alloc (Nat.le_refl _) _⟩
end Go.Proofs.YbulkdznmFmt.A

/- 6304A: dataKeyID.String, fmt.Errorf at the calls that print a dataKeyID. -/
import Derived.Test.YbulkdznmFmtK6
import Derived.Test.YbulkdznmFmtK4
import Derived.Test.YbulkdznmFmtKF2
import Derived.Test.YbulkdznmFmtShelf
namespace Go.Proofs.YbulkdznmFmt.A
open Go.RowKit Go.Extern.Stop Go.Stop Go.Extern

theorem u8lt (b : UInt8) : 0 ≤ (b.toNat : Int) ∧ (b.toNat : Int) < 256 := ⟨by omega, by have := b.toNat_lt; omega⟩

set_option maxRecDepth 100000 in
set_option maxHeartbeats 4000000 in
theorem string_f (id : Nat → UInt8) (w : World) : Calls Ybaf.prog 22 #[ar id] w fun e w' => (∃ s, e = .returned (.string s)) ∧ Below w.heap.size w w' := by
  have h1 := fun (w1 : World) (hw : By w1 w.heap.size 0 8 id) => Ybaf.hex_EncodeToString w.heap.size 0 8 8 ((bl id).map (fun b => (b.toNat : Int))) w1 rfl
    (fun i hi => by
      rcases i with _ | _ | _ | _ | _ | _ | _ | _ | i <;> first | (exfalso; omega) | exact u8lt _)
    (fun i hi => by
      have := hw i hi
      rcases i with _ | _ | _ | _ | _ | _ | _ | _ | i <;> first | exact this | omega) (lt_of (hw 0 (by omega))) (by omega)
  have H1 := hide h1
  clear h1
  unfold ar
  go_enter Ybaf.func22, Ybaf.ntmps22
  go_wp2_with fail
  refine (H1.out _ ?_).mono ?_
  · intro m hm
    rw [Nat.zero_add]
    refine (World.cell?_alloc_at (w := w) _ 40 _ m rfl).trans ?_
    rcases m with _ | _ | _ | _ | _ | _ | _ | _ | m <;> first | rfl | omega
  · rintro e w' ⟨rfl, hb⟩
    have HB := hide hb
    clear hb
    go_wp2_with fail
    go_ret
    exact ⟨⟨_, rfl⟩, ((Below.refl _ _).alloc (Nat.le_refl _) _).trans (HB.out.mono (by simp))⟩

set_option maxRecDepth 100000 in
set_option maxHeartbeats 4000000 in
theorem errorf3 (F : Interp) (id : Nat → UInt8) (b : Nat) (w : World) (hF : F.answers w.tape) (hc : w.cell? ⟨b, 0, none⟩ = some (.iface 40 (ar id))) :
    Calls Ybaf.prog 17 #[.string { data := #[100, 97, 116, 97, 32, 107, 101, 121, 32, 37, 115, 32, 105, 115, 32, 108, 105, 115, 116, 101, 100, 32, 116, 119, 105, 99, 101] }, .slice (some ⟨b, 0, none⟩) 1 1] w fun e w' => (∃ T x, e = .returned (.iface T x)) ∧ Below w.heap.size w w' := by
  have hF' := answers_open hF
  go_enter Ybaf.func17, Ybaf.ntmps17
  go_wp2
  apply rows_call Ybaf.nextTurns
  case hr =>
    go_simp
    exact ⟨⟨rfl, rfl, rfl⟩, rfl⟩
  case hi => exact Ybaf.invokeString40 _ _
  case hc =>
    refine (string_f id _).mono fun e w₃ ⟨he, hx⟩ => ?_
    obtain ⟨s, rfl⟩ := he
    have hF3 : F.answers w₃.tape := by rw [hx.tape]; exact hF
    have hF3' := answers_open hF3
    have HX := hide hx
    clear hx
    apply rows_value Ybaf.nextReturned
    case hr =>
      go_simp
      exact ⟨rfl, rfl⟩
    case h =>
      go_wp2
      go_ret
      exact ⟨⟨_, _, rfl⟩, ((HX.out.drew).alloc HX.out.size _)⟩

set_option maxRecDepth 100000 in
set_option maxHeartbeats 4000000 in
theorem errorf4 (F : Interp) (nm : ByteArray) (id : Nat → UInt8) (b : Nat) (w : World) (hF : F.answers w.tape) (hd : w.cell? ⟨b, 0, none⟩ = some (.iface 9 (.string nm))) (hc : w.cell? ⟨b, 1, none⟩ = some (.iface 40 (ar id))) :
    Calls Ybaf.prog 17 #[.string { data := #[115, 99, 111, 112, 101, 32, 37, 115, 58, 32, 105, 116, 115, 32, 112, 114, 105, 109, 97, 114, 121, 32, 107, 101, 121, 32, 37, 115, 32, 105, 115, 32, 109, 105, 115, 115, 105, 110, 103] }, .slice (some ⟨b, 0, none⟩) 2 2] w fun e w' => (∃ T x, e = .returned (.iface T x)) ∧ Below w.heap.size w w' := by
  have hF' := answers_open hF
  go_enter Ybaf.func17, Ybaf.ntmps17
  go_wp2
  apply rows_call Ybaf.nextTurns
  case hr =>
    go_simp
    exact ⟨⟨rfl, rfl, rfl⟩, rfl⟩
  case hi => exact Ybaf.invokeString40 _ _
  case hc =>
    refine (string_f id _).mono fun e w₃ ⟨he, hx⟩ => ?_
    obtain ⟨s, rfl⟩ := he
    have hF3 : F.answers w₃.tape := by rw [hx.tape]; exact hF
    have hF3' := answers_open hF3
    have HX := hide hx
    clear hx
    apply rows_value Ybaf.nextReturned
    case hr =>
      go_simp
      exact ⟨rfl, rfl⟩
    case h =>
      go_wp2
      go_ret
      exact ⟨⟨_, _, rfl⟩, ((HX.out.drew).alloc HX.out.size _)⟩
end Go.Proofs.YbulkdznmFmt.A

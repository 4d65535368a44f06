/- 6304A: numbers of four bytes: zzs6304aget. -/
import Derived.Test.YbulkdznmFmtK0
import Derived.Lib.Endian
import Derived.Lib.EndianBits
namespace Go.Proofs.YbulkdznmFmt.A
open Go.RowKit

theorem or_comm32 (x y : Int) : bits .or .u32 x y = bits .or .u32 y x := by simp only [bits, BitVec.or_comm]
theorem or4 (a b c d : Int) (ha : 0 ≤ a ∧ a < 256) (hb : 0 ≤ b ∧ b < 256) (hc : 0 ≤ c ∧ c < 256) (hd : 0 ≤ d ∧ d < 256) :
    bits .or .u32 (bits .or .u32 (bits .or .u32 (a * 16777216) (b * 65536)) (c * 256)) d = d + c * 256 + b * 65536 + a * 16777216 := by
  have s1 : bits .or .u32 (a * 16777216) (b * 65536) = b * 65536 + a * 16777216 := by rw [or_comm32]; exact u32_or24 _ _ (by omega) (by omega) (by omega) (by omega) (by omega)
  have s2 : bits .or .u32 (b * 65536 + a * 16777216) (c * 256) = c * 256 + (b * 65536 + a * 16777216) := by rw [or_comm32]; exact u32_or16 _ _ (by omega) (by omega) (by omega) (by omega) (by omega)
  have s3 : bits .or .u32 (c * 256 + (b * 65536 + a * 16777216)) d = d + (c * 256 + (b * 65536 + a * 16777216)) := by rw [or_comm32]; exact u32_or8 _ _ (by omega) (by omega) (by omega) (by omega) (by omega)
  rw [s1, s2, s3]
  omega
set_option maxRecDepth 100000 in
theorem be4 (b0 b1 b2 b3 : UInt8) : ((Lib.beNat [b0, b1, b2, b3] : Nat) : Int) = (b3.toNat : Int) + (b2.toNat : Int) * 256 + (b1.toNat : Int) * 65536 + (b0.toNat : Int) * 16777216 := by
  simp only [Lib.beNat, Lib.beFrom]
  push_cast
  omega

set_option maxRecDepth 100000 in
set_option maxHeartbeats 4000000 in
theorem get_f (g o n c p : Nat) (b0 b1 b2 b3 : UInt8) (w : World) (hp : p + 4 ≤ n) (hn : n ≤ 1000000000)
    (c0 : w.cell? ⟨g, o + p, none⟩ = some (.int .u8 b0.toNat)) (c1 : w.cell? ⟨g, o + (p + 1), none⟩ = some (.int .u8 b1.toNat)) (c2 : w.cell? ⟨g, o + (p + 2), none⟩ = some (.int .u8 b2.toNat)) (c3 : w.cell? ⟨g, o + (p + 3), none⟩ = some (.int .u8 b3.toNat)) :
    Calls Ybaf.prog 11 #[.slice (some ⟨g, o, none⟩) n c, .int .i64 p] w fun e w' => e = .returned (.int .u32 (Lib.beNat [b0, b1, b2, b3])) ∧ Below w.heap.size w w' := by
  have h0 : b0.toNat < 256 := b0.toNat_lt
  have h1 : b1.toNat < 256 := b1.toNat_lt
  have h2 : b2.toNat < 256 := b2.toNat_lt
  have h3 : b3.toNat < 256 := b3.toNat_lt
  have hn' : (n : Int) ≤ 1000000000 := by omega
  obtain ⟨p1, e1⟩ : ∃ q : Nat, (p : Int) + 1 = q := ⟨p + 1, by omega⟩
  obtain ⟨p2, e2⟩ : ∃ q : Nat, (p : Int) + 2 = q := ⟨p + 2, by omega⟩
  obtain ⟨p3, e3⟩ : ∃ q : Nat, (p : Int) + 3 = q := ⟨p + 3, by omega⟩
  rw [show p + 1 = p1 by omega] at c1
  rw [show p + 2 = p2 by omega] at c2
  rw [show p + 3 = p3 by omega] at c3
  have i0 : (p : Int) < n := by omega
  have i1 : (p1 : Int) < n := by omega
  have i2 : (p2 : Int) < n := by omega
  have i3 : (p3 : Int) < n := by omega
  clear hp
  go_enter Ybaf.func11, Ybaf.ntmps11
  go_wp2_with fail
  go_quiet (fail)
  go_wp2_with fail
  go_ret
  refine ⟨?_, below_drewN (Below.refl _ _) _⟩
  rw [be4, ← or4 _ _ _ _ (by omega) (by omega) (by omega) (by omega)]
  rfl
end Go.Proofs.YbulkdznmFmt.A

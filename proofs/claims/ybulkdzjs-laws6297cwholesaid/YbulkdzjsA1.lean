import Derived.Test.YbulkdzjsRows
import Derived.Test.YbulkdzjsFlt
import Derived.WalkKit
import Derived.WalkSpells
import Derived.WalkSmall
import Derived.WalkLawsBesides
import Derived.StillTactics
import Derived.Laws.Pointers
import Derived.Laws.FloatArith
import Derived.Laws.OwnMore
import Derived.BigQuiet
import Derived.Deep.QuietTactic
import Derived.RowKit3
import Derived.Deep.RegionHeld3
namespace Go.Proofs.Ybulkdzjs.A
open Go.RowKit Flt

theorem f15 (a : Nat) (w : World) : (callFunc 15 #[.float .f64 a]).run Yba.prog w = .ok (.value (.int .u64 a)) w := by kernel_rfl
theorem f14 (a : Int) (w : World) : (callFunc 14 #[.int .u64 a]).run Yba.prog w = .ok (.value (.float .f64 a.toNat)) w := by kernel_rfl
theorem run_negf (b : Nat) (w : World) : (Op.unary .neg (.float .f64 b)).run Yba.prog w = .ok (.float .f64 (Op.negFloat .f64 b)) w := rfl
attribute [local go_sem] f15 f14 run_negf

theorem andNot_sign (a : Nat) (ha : a < 18446744073709551616) : (bits BinOp.andNot IntKind.u64 (a : Int) 9223372036854775808).toNat = a % 9223372036854775808 := by
  have h1 : (BitVec.ofInt 64 (a : Int)).toNat = a := by
    rw [BitVec.ofInt_natCast, BitVec.toNat_ofNat]; exact Nat.mod_eq_of_lt (by omega)
  have h2 : (~~~(BitVec.ofInt 64 (9223372036854775808 : Int))).toNat = 9223372036854775807 := by decide
  have h3 : bits BinOp.andNot IntKind.u64 (a : Int) 9223372036854775808 = IntKind.u64.wrap ((BitVec.ofInt 64 (a : Int) &&& ~~~(BitVec.ofInt 64 (9223372036854775808 : Int))).toNat : Int) := rfl
  rw [h3, BitVec.toNat_and, h1, h2, IntKind.wrap_u64]
  have h4 : a &&& 9223372036854775807 = a % 9223372036854775808 := Nat.and_two_pow_sub_one_eq_mod a 63
  rw [h4]
  omega

theorem ret_float {a b : Nat} (h : a = b) : Ending.returned (.float .f64 a) = .returned (.float .f64 b) := by rw [h]
theorem ret_bool {a b : Bool} (h : a = b) : Ending.returned (.bool a) = .returned (.bool b) := by rw [h]
theorem ret_int {k : IntKind} {a b : Int} (h : a = b) : Ending.returned (.int k a) = .returned (.int k b) := by rw [h]

theorem abs_any (a : Nat) (w : World) (ha : a < 18446744073709551616) :
    Calls Yba.prog 30 #[.float .f64 a] w fun e w' => e = .returned (.float .f64 (a % 9223372036854775808)) ∧ w' = w := by
  go_enter Yba.func30, Yba.ntmps30
  go_wp2
  go_ret
  exact ⟨ret_float (andNot_sign a ha), rfl⟩

/-- 'float64(z)'. -/
def F (z : Int) : Nat := floatOfInt .f64 z
theorem val_F (z : Int) (h : -9007199254740992 < z ∧ z < 9007199254740992) : Val (F z) z := val_int z (by omega)
theorem F_lt (z : Int) : F z < 18446744073709551616 := by
  have := Ieee.Format.write_lt Ieee.double (.number (decide (z < 0)) z.natAbs 0)
  exact this

/-- x - v in floats, of two whole numbers. -/
def dif (x v : Int) : Nat := (Ieee.double.sub (F x) (F v)).getD 0
theorem dif_ok (x v : Int) (hx : -4294967296 < x ∧ x < 4294967296) (hv : -4294967296 < v ∧ v < 4294967296) : floatBits .sub .f64 (F x) (F v) = some (dif x v) ∧ Val (dif x v) (x - v) ∧ dif x v < 18446744073709551616 := by
  obtain ⟨r, h1, h2⟩ := val_sub (val_F x (by omega)) (val_F v (by omega)) (by omega)
  have e : dif x v = r := by unfold dif; rw [h1]; rfl
  rw [e]
  exact ⟨h1, h2, Ieee.Format.sub_lt Ieee.double h1⟩
/-- The distance, as 'distance' gives it. -/
def dist (x v : Int) : Nat := dif x v % 9223372036854775808
def adist (x v : Int) : Int := if x - v < 0 then -(x - v) else x - v
theorem dist_ok (x v : Int) (hx : -4294967296 < x ∧ x < 4294967296) (hv : -4294967296 < v ∧ v < 4294967296) : Val (dist x v) (adist x v) := val_abs (dif_ok x v hx hv).2.1

set_option maxHeartbeats 1000000 in
theorem distance_any (vb m : Nat) (x v s : Int) (w : World) (hs : 1 ≤ s) (hsm : s ≤ m) (hm : m ≤ 65537) (hx : -4294967296 < x ∧ x < 4294967296) (hv : -4294967296 < v ∧ v < 4294967296)
    (hc : w.cell? ⟨vb, s.toNat - 1, none⟩ = some (.float .f64 (F x))) :
    Calls Yba.prog 20 #[.agg #[.slice (some ⟨vb, 0, none⟩) m m, .float .f64 (F v)], .int .i64 s] w fun e w' => e = .returned (.float .f64 (dist x v)) ∧ Below w.heap.size w w' := by
  obtain ⟨hd, _, hlt⟩ := dif_ok x v hx hv
  have hsub := fun W : World => run_float_arith (P := Yba.prog) W .sub 26 .f64 _ _ _ hd
  have hb := World.block_lt_of_cell? _ _ hc
  have hc' : ∀ o, (w.alloc o).cell? ⟨vb, s.toNat - 1, none⟩ = some (.float .f64 (F x)) := fun o => (World.cell?_alloc_past _ _ _ hb).trans hc
  clear hd
  have hw1 : IntKind.i64.wrap (s - 1) = s - 1 := by rw [IntKind.wrap_i64]; omega
  have hi0 : 0 ≤ s - 1 := by omega
  have hi1 : s - 1 < (m : Int) := by omega
  go_enter Yba.func20, Yba.ntmps20
  go_wp2
  go_quiet ((go_at_call 30; exact Calls.quiet_of_same (abs_any _ _ hlt)))
  go_wp2
  go_ret
  exact ⟨rfl, below_drewN ((Below.refl _ _).alloc (Nat.le_refl _) _) _⟩

theorem xor_sign_lo (b : Nat) (h : b < 9223372036854775808) : b ^^^ 9223372036854775808 = b + 9223372036854775808 := by
  have e : (9223372036854775808 : Nat) = 2 ^ 63 := rfl
  rw [e] at h ⊢
  rw [Nat.add_comm]
  apply Nat.eq_of_testBit_eq
  intro i
  rw [Nat.testBit_xor]
  rcases Nat.lt_trichotomy i 63 with hi | rfl | hi
  · rw [Nat.testBit_two_pow_add_gt hi, Nat.testBit_two_pow]
    have : ¬ (63 = i) := by omega
    simp [this]
  · rw [Nat.testBit_two_pow_add_eq, Nat.testBit_two_pow]
    simp
  · have h1 : b.testBit i = false := Nat.testBit_lt_two_pow (Nat.lt_of_lt_of_le h (Nat.pow_le_pow_right (by omega) (by omega)))
    have h2 : (2 ^ 63 + b).testBit i = false := Nat.testBit_lt_two_pow (Nat.lt_of_lt_of_le (show 2 ^ 63 + b < 2 ^ 64 by omega) (Nat.pow_le_pow_right (by omega) (by omega)))
    rw [h1, h2, Nat.testBit_two_pow]
    have : ¬ (63 = i) := by omega
    simp [this]
theorem neg_eq (a : Nat) (ha : a < 18446744073709551616) : Op.negFloat .f64 a = if a < 9223372036854775808 then a + 9223372036854775808 else a - 9223372036854775808 := by
  show a ^^^ 9223372036854775808 = _
  by_cases h : a < 9223372036854775808
  · rw [if_pos h, xor_sign_lo a h]
  · rw [if_neg h]
    have e := xor_sign_lo (a - 9223372036854775808) (by omega)
    have e2 : a = a - 9223372036854775808 + 9223372036854775808 := by omega
    rw [e2, ← e, Nat.xor_assoc, Nat.xor_self, Nat.xor_zero, e]
    omega
theorem val_neg {a : Nat} (ha : a < 18446744073709551616) {x : Int} (h : Val a x) : Val (Op.negFloat .f64 a) (-x) := by
  rw [neg_eq a ha]; exact val_flip ha h

theorem neg_lt (a : Nat) (ha : a < 18446744073709551616) : Op.negFloat .f64 a < 18446744073709551616 := by
  rw [neg_eq a ha]; split <;> omega
theorem sub_ok {a b : Nat} {x y : Int} (ha : Val a x) (hb : Val b y) (hz : -9007199254740992 < x - y ∧ x - y < 9007199254740992) : ∃ r, floatBits .sub .f64 a b = some r ∧ Val r (x - y) ∧ r < 18446744073709551616 := by
  obtain ⟨r, h1, h2⟩ := val_sub ha hb (by omega)
  exact ⟨r, h1, h2, Ieee.Format.sub_lt Ieee.double h1⟩
theorem add_ok {a b : Nat} {x y : Int} (ha : Val a x) (hb : Val b y) (hz : -9007199254740992 < x + y ∧ x + y < 9007199254740992) : ∃ r, floatBits .add .f64 a b = some r ∧ Val r (x + y) ∧ r < 18446744073709551616 := by
  obtain ⟨r, h1, h2⟩ := val_add ha hb (by omega)
  exact ⟨r, h1, h2, Ieee.Format.add_lt Ieee.double h1⟩

set_option maxHeartbeats 1000000 in
/-- roundedOff: nothing is rounded off a difference of two small whole numbers. -/
theorem roundedOff_any (x v : Int) (w : World) (hx : -4294967296 < x ∧ x < 4294967296) (hv : -4294967296 < v ∧ v < 4294967296) :
    Calls Yba.prog 46 #[.float .f64 (F x), .float .f64 (F v)] w fun e w' => (∃ r, e = .returned (.float .f64 r) ∧ Val r 0 ∧ r < 18446744073709551616) ∧ w' = w := by
  obtain ⟨hd, vd, ld⟩ := dif_ok x v hx hv
  have hsub := fun W : World => run_float_arith (P := Yba.prog) W .sub 26 .f64 _ _ _ hd
  have vx := val_F x (by omega)
  have vv := val_F v (by omega)
  have hlt := order_lt vd val_zero
  have hge := order_ge (val_abs vx) (val_abs vv)
  have lx := F_lt x
  have lv := F_lt v
  by_cases hc : (if v < 0 then -v else v) ≤ (if x < 0 then -x else x)
  · have hge' : (FloatKind.f64.format.order (F x % 9223372036854775808) (F v % 9223372036854775808) == some .gt || FloatKind.f64.format.order (F x % 9223372036854775808) (F v % 9223372036854775808) == some .eq) = true := hge.trans (by simpa using hc)
    obtain ⟨r1, h1, v1, l1⟩ := sub_ok vd vx (by omega)
    obtain ⟨r2, h2, v2, l2⟩ := sub_ok (val_neg lv vv) v1 (by omega)
    have hs1 := fun W : World => run_float_arith (P := Yba.prog) W .sub 26 .f64 _ _ _ h1
    have hs2 := fun W : World => run_float_arith (P := Yba.prog) W .sub 26 .f64 _ _ _ h2
    have z2 : Val r2 0 := by
      have e : -v - (x - v - x) = 0 := by omega
      rw [e] at v2; exact v2
    clear h1 h2 v1 v2 hge hd vx vv hc
    by_cases hn : x - v < 0
    · have hlt' : (FloatKind.f64.format.order (dif x v) 0 == some .lt) = true := hlt.trans (by simpa using hn)
      go_enter Yba.func46, Yba.ntmps46
      go_wp2_with (go_at_call 30; refine (abs_any _ _ (by assumption)).mono ?_; rintro e w' ⟨rfl, rfl⟩)
      go_ret
      exact ⟨⟨_, rfl, val_neg l2 z2, neg_lt _ l2⟩, rfl⟩
    · have hlt' : (FloatKind.f64.format.order (dif x v) 0 == some .lt) = false := hlt.trans (by simpa using hn)
      go_enter Yba.func46, Yba.ntmps46
      go_wp2_with (go_at_call 30; refine (abs_any _ _ (by assumption)).mono ?_; rintro e w' ⟨rfl, rfl⟩)
      go_ret
      exact ⟨⟨_, rfl, z2, l2⟩, rfl⟩
  · have hge' : (FloatKind.f64.format.order (F x % 9223372036854775808) (F v % 9223372036854775808) == some .gt || FloatKind.f64.format.order (F x % 9223372036854775808) (F v % 9223372036854775808) == some .eq) = false := hge.trans (by simpa using hc)
    obtain ⟨r1, h1, v1, l1⟩ := add_ok vd vv (by omega)
    obtain ⟨r2, h2, v2, l2⟩ := sub_ok vx v1 (by omega)
    have hs1 := fun W : World => run_float_arith (P := Yba.prog) W .add 26 .f64 _ _ _ h1
    have hs2 := fun W : World => run_float_arith (P := Yba.prog) W .sub 26 .f64 _ _ _ h2
    have z2 : Val r2 0 := by
      have e : x - (x - v + v) = 0 := by omega
      rw [e] at v2; exact v2
    clear h1 h2 v1 v2 hge hd vx vv hc
    by_cases hn : x - v < 0
    · have hlt' : (FloatKind.f64.format.order (dif x v) 0 == some .lt) = true := hlt.trans (by simpa using hn)
      go_enter Yba.func46, Yba.ntmps46
      go_wp2_with (go_at_call 30; refine (abs_any _ _ (by assumption)).mono ?_; rintro e w' ⟨rfl, rfl⟩)
      go_ret
      exact ⟨⟨_, rfl, val_neg l2 z2, neg_lt _ l2⟩, rfl⟩
    · have hlt' : (FloatKind.f64.format.order (dif x v) 0 == some .lt) = false := hlt.trans (by simpa using hn)
      go_enter Yba.func46, Yba.ntmps46
      go_wp2_with (go_at_call 30; refine (abs_any _ _ (by assumption)).mono ?_; rintro e w' ⟨rfl, rfl⟩)
      go_ret
      exact ⟨⟨_, rfl, z2, l2⟩, rfl⟩

theorem val_max : Val 9218868437227405311 (9007199254740991 * ((2 ^ 971 : Nat) : Int)) := by
  refine ⟨false, 9007199254740991, 971, by decide, by have := bias_eq; omega, ?_⟩
  rw [show ((971 : Int) + bias).toNat = 971 + bias by omega, Nat.pow_add]
  generalize (2 ^ 971 : Nat) = u
  generalize (2 ^ bias : Nat) = v
  simp only [sg, Int.natCast_mul]
  rw [if_neg (by decide), Int.one_mul, Int.mul_assoc]
  rfl
theorem not_big {a : Nat} {z : Int} (h : Val a z) (hz : z < 9007199254740992) : (FloatKind.f64.format.order a 9218868437227405311 == some .gt) = false := by
  have e : FloatKind.f64.format.order a 9218868437227405311 = some (compare z (9007199254740991 * ((2 ^ 971 : Nat) : Int))) := val_order h val_max
  rw [e]
  have hp : (1 : Int) ≤ ((2 ^ 971 : Nat) : Int) := by have := Nat.two_pow_pos 971; omega
  generalize ((2 ^ 971 : Nat) : Int) = u at hp ⊢
  have h2 : compare z (9007199254740991 * u) ≠ .gt := by
    rw [Ne, Int.compare_eq_gt]; omega
  cases hc : compare z (9007199254740991 * u) <;> first | rfl | exact absurd hc h2

/-- IsInf(f, 0) of a word below infinity. -/
theorem isInf_any (a : Nat) (z : Int) (w : World) (ha : a < 18446744073709551616) (hv : Val a z) (hz : -9007199254740992 < z ∧ z < 9007199254740992) :
    Calls Yba.prog 45 #[.float .f64 a, .int .i64 0] w fun e w' => e = .returned (.bool false) ∧ w' = w := by
  have hg := not_big (val_abs hv) (by split <;> omega)
  go_enter Yba.func45, Yba.ntmps45
  go_wp2_with (go_at_call 30; refine (abs_any _ _ ha).mono ?_; rintro e w' ⟨rfl, rfl⟩)
  go_ret
  exact ⟨rfl, rfl⟩
end Go.Proofs.Ybulkdzjs.A

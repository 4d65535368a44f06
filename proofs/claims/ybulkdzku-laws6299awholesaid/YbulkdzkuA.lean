import Derived.Test.YbulkdzkuRows
import Derived.WalkKit
import Derived.WalkSpells
import Derived.WalkSmall
import Derived.StillTactics
import Derived.Laws.Pointers
import Derived.BigQuiet
import Derived.Deep.QuietTactic
import Derived.RowKit3
import Derived.Laws.StructEq
import Derived.Laws.Cover3
import Derived.Lib.SliceRun
import Derived.KernelRfl
namespace Go.Proofs.Ybulkdzku
open Go.RowKit

/-- What 'stretched' leaves of 'left'. -/
def stLeft (fixed r0 r1 r2 left tally paid : Int) : Int :=
  wrap64 (left - wrap64 (IntKind.u64.wrap (IntKind.u64.wrap (IntKind.u64.wrap (IntKind.u64.wrap (IntKind.u64.wrap (wrap64 (paid + wrap64 tally / 18014398509481984)) * fixed) +
    IntKind.u64.wrap (IntKind.u64.wrap r0 * bits BinOp.and IntKind.u64 tally 262143)) +
    IntKind.u64.wrap (IntKind.u64.wrap r1 * bits BinOp.and IntKind.u64 (tally / 262144) 262143)) +
    IntKind.u64.wrap (IntKind.u64.wrap r2 * bits BinOp.and IntKind.u64 (tally / 68719476736) 262143))))

/-- Why it says that it stopped. -/
def stWhy (tally paid why : Int) : Int := if why = 2 ∧ 0 ≤ wrap64 tally ∧ 0 < paid then 1 else why

set_option maxHeartbeats 1000000 in
theorem stretched_any (b : Nat) (fixed r0 r1 r2 p left tally paid why : Int) (w : World)
    (_ht0 : 0 ≤ tally) (_ht1 : tally ≤ 18446744073709551615)
    (c5 : w.cell? ⟨b, 5, none⟩ = some (.int .u64 fixed))
    (c70 : w.cell? ⟨b, 7, none⟩ = some (.int .u32 r0))
    (c71 : w.cell? ⟨b, 8, none⟩ = some (.int .u32 r1))
    (c72 : w.cell? ⟨b, 9, none⟩ = some (.int .u32 r2)) :
    Calls Yba.prog 5 #[.pointer (some ⟨b, 0, none⟩), .int .i64 p, .int .i64 left, .int .u64 tally, .int .i64 paid, .int .u8 why] w fun e w' =>
      e = .returned (.tuple #[.int .i64 p, .int .i64 (stLeft fixed r0 r1 r2 left tally paid), .int .u8 (stWhy tally paid why)]) ∧ ∃ n, w' = w.drewN n := by
  go_enter Yba.func5, Yba.ntmps5
  go_wp2
  go_quiet (fail)
  go_wp2
  all_goals go_ret3
  · exact ⟨by simp [stLeft, stWhy, *], _, rfl⟩
  · exact ⟨by simp [stLeft, stWhy, *], _, rfl⟩
  · exact ⟨by simp [stLeft, stWhy, *]; omega, _, rfl⟩
  · exact ⟨by simp [stLeft, stWhy, *], _, rfl⟩

theorem and_lane (x : Int) (h0 : 0 ≤ x) (h1 : x ≤ 18446744073709551615) : bits BinOp.and IntKind.u64 x 262143 = x % 262144 := by
  have h := bits_and_u64_nat x.toNat 262143 (by omega) (by omega)
  have e : x.toNat &&& 262143 = x.toNat % 262144 := Nat.and_two_pow_sub_one_eq_mod x.toNat 18
  rw [e, Int.toNat_of_nonneg h0] at h
  refine h.trans ?_
  omega

theorem gdrewN {W w : World} (h : Grown W w) (n : Nat) : Grown W (w.drewN n) := h

theorem wrap64_congr {a b : Int} (h : a % 18446744073709551616 = b % 18446744073709551616) : wrap64 a = wrap64 b := by
  unfold wrap64; omega
theorem u64_mod (x : Int) : IntKind.u64.wrap x = x % 18446744073709551616 := IntKind.wrap_u64 x
theorem wrap64_mod (x : Int) : wrap64 x % 18446744073709551616 = x % 18446744073709551616 := by unfold wrap64; omega

/-- The plain law: the two reckonings of what is left agree: everything goes modulo 2^64, and the lanes read by masks are those read by division. 'h' is the tally's signed count of rounds. -/
theorem plain (fixed r0 r1 r2 left tally paid h : Int) (ht0 : 0 ≤ tally) (ht1 : tally ≤ 18446744073709551615)
    (hh : wrap64 tally / 18014398509481984 % 18446744073709551616 = h % 18446744073709551616) :
    stLeft fixed r0 r1 r2 left tally paid = wrap64 (IntKind.u64.wrap (IntKind.u64.wrap left -
      IntKind.u64.wrap (IntKind.u64.wrap (IntKind.u64.wrap (IntKind.u64.wrap (IntKind.u64.wrap (IntKind.u64.wrap paid + h) * fixed) +
        IntKind.u64.wrap (IntKind.u64.wrap r0 * (tally % 262144))) +
        IntKind.u64.wrap (IntKind.u64.wrap r1 * (tally / 262144 % 262144))) +
        IntKind.u64.wrap (IntKind.u64.wrap r2 * (tally / 68719476736 % 262144))))) := by
  unfold stLeft
  rw [and_lane tally ht0 ht1, and_lane (tally / 262144) (by omega) (by omega), and_lane (tally / 68719476736) (by omega) (by omega)]
  simp only [u64_mod]
  refine wrap64_congr ?_
  have e1 : (wrap64 (paid + wrap64 tally / 18014398509481984) % 18446744073709551616 * fixed) % 18446744073709551616 = ((paid % 18446744073709551616 + h) % 18446744073709551616 * fixed) % 18446744073709551616 := by
    rw [wrap64_mod]
    congr 2
    omega
  generalize r0 % 18446744073709551616 * (tally % 262144) = a0
  generalize r1 % 18446744073709551616 * (tally / 262144 % 262144) = a1
  generalize r2 % 18446744073709551616 * (tally / 68719476736 % 262144) = a2
  rw [e1]
  generalize ((paid % 18446744073709551616 + h) % 18446744073709551616 * fixed) = b
  clear e1 hh
  unfold wrap64
  omega

theorem round_lo (tally : Int) (hs : tally < 9223372036854775808) (ht0 : 0 ≤ tally) : wrap64 tally = tally := by unfold wrap64; omega
theorem round_hi (tally : Int) (hs : ¬ tally < 9223372036854775808) (ht1 : tally ≤ 18446744073709551615) : wrap64 tally = tally - 18446744073709551616 := by unfold wrap64; omega

/-- '==' of two arrays of four uint32: the same four numbers: true. -/
theorem eq24 (a b c d : Int) (w : World) : (Op.equalIn 10000 24 (.agg #[.int .u32 a, .int .u32 b, .int .u32 c, .int .u32 d]) (.agg #[.int .u32 a, .int .u32 b, .int .u32 c, .int .u32 d])).run Yba.prog w = .ok true w := by
  have u3 := Yba.underlying23
  have a3 := Yba.isAgg23
  have z3 := Yba.sizeOf23
  rw [show (10000 : Nat) = 9999 + 1 from rfl, Op.equalIn]
  simp only [Sem.run_bind, run_underlying Yba.underlying24, Result.andThen_ok]
  simp only [Std.Legacy.Range.forIn_eq_forIn_range', Std.Legacy.Range.size, Nat.sub_zero, Nat.add_sub_cancel, Nat.div_one, List.range'_succ, List.range'_zero, List.forIn_cons, List.forIn_nil]
  go_simp
theorem eqG24 : Yba.prog.eqGuardType Yba.prog.depth 24 = false := by kernel_rfl
theorem eq26 (w : World) : (binOp .eql 26 (.slice none 0 0) (.slice none 0 0)).run Yba.prog w = .ok (.bool true) w := by
  simp only [binOp]
  simp [Op.equal, Op.maxDepth, Lib.run_equalIn_slice_nil w 9999 26 _ none 0 0 0 0 Yba.underlying26]
attribute [local go_sem] eq24 eqG24 eq26

set_option maxRecDepth 100000 in
set_option maxHeartbeats 1000000 in
theorem walk_a (fixed r0 r1 r2 r3 p left tally paid : Int) (w : World) (ht0 : 0 ≤ tally) (ht1 : tally ≤ 18446744073709551615) (hs : tally < 9223372036854775808) (h3 : 0 < paid) :
    Calls Yba.prog 3 #[.int .u64 fixed, .agg #[.int .u32 r0, .int .u32 r1, .int .u32 r2, .int .u32 r3], .int .i64 p, .int .i64 left, .int .u64 tally, .int .i64 paid, .int .u8 2] w fun e w' => e = .returned (.bool true) ∧ Grown w w' := by
  have hq := beq_iff_eq.2 (plain fixed r0 r1 r2 left tally paid (tally / 18014398509481984) ht0 ht1 (by rw [round_lo tally hs ht0]))
  have hy : stWhy tally paid 2 = 1 := by unfold stWhy; rw [if_pos ⟨rfl, by rw [round_lo tally hs ht0]; exact ht0, h3⟩]
  go_enter Yba.func3, Yba.ntmps3
  go_wp2_with (go_at_call 5; refine (stretched_any _ fixed r0 r1 r2 _ _ _ _ _ _ ht0 ht1 (by simp) (by simp) (by simp) (by simp)).mono ?_; rintro e w' ⟨rfl, nq, rfl⟩)
  go_quiet (fail)
  go_wp2
  go_ret
  exact ⟨rfl, gdrewN (gdrewN (((Grown.refl _).alloc _ _).alloc _ _) _) _⟩

set_option maxRecDepth 100000 in
set_option maxHeartbeats 1000000 in
theorem walk_b (fixed r0 r1 r2 r3 p left tally paid : Int) (w : World) (ht0 : 0 ≤ tally) (ht1 : tally ≤ 18446744073709551615) (hs : tally < 9223372036854775808) (h3 : paid ≤ 0) :
    Calls Yba.prog 3 #[.int .u64 fixed, .agg #[.int .u32 r0, .int .u32 r1, .int .u32 r2, .int .u32 r3], .int .i64 p, .int .i64 left, .int .u64 tally, .int .i64 paid, .int .u8 2] w fun e w' => e = .returned (.bool true) ∧ Grown w w' := by
  have hq := beq_iff_eq.2 (plain fixed r0 r1 r2 left tally paid (tally / 18014398509481984) ht0 ht1 (by rw [round_lo tally hs ht0]))
  have hy : stWhy tally paid 2 = 2 := by unfold stWhy; rw [if_neg (by omega)]
  go_enter Yba.func3, Yba.ntmps3
  go_wp2_with (go_at_call 5; refine (stretched_any _ fixed r0 r1 r2 _ _ _ _ _ _ ht0 ht1 (by simp) (by simp) (by simp) (by simp)).mono ?_; rintro e w' ⟨rfl, nq, rfl⟩)
  go_quiet (fail)
  go_wp2
  go_ret
  exact ⟨rfl, gdrewN (gdrewN (((Grown.refl _).alloc _ _).alloc _ _) _) _⟩

set_option maxRecDepth 100000 in
set_option maxHeartbeats 1000000 in
theorem walk_c (fixed r0 r1 r2 r3 p left tally paid : Int) (w : World) (ht0 : 0 ≤ tally) (ht1 : tally ≤ 18446744073709551615) (hs : ¬ tally < 9223372036854775808) :
    Calls Yba.prog 3 #[.int .u64 fixed, .agg #[.int .u32 r0, .int .u32 r1, .int .u32 r2, .int .u32 r3], .int .i64 p, .int .i64 left, .int .u64 tally, .int .i64 paid, .int .u8 2] w fun e w' => e = .returned (.bool true) ∧ Grown w w' := by
  have hq := beq_iff_eq.2 (plain fixed r0 r1 r2 left tally paid (IntKind.u64.wrap (tally / 18014398509481984 - 1024)) ht0 ht1 (by rw [round_hi tally hs ht1, u64_mod]; omega))
  have hy : stWhy tally paid 2 = 2 := by unfold stWhy; rw [if_neg (by rw [round_hi tally hs ht1]; omega)]
  go_enter Yba.func3, Yba.ntmps3
  go_wp2_with (go_at_call 5; refine (stretched_any _ fixed r0 r1 r2 _ _ _ _ _ _ ht0 ht1 (by simp) (by simp) (by simp) (by simp)).mono ?_; rintro e w' ⟨rfl, nq, rfl⟩)
  go_quiet (fail)
  go_wp2
  go_ret
  exact ⟨rfl, gdrewN (gdrewN (((Grown.refl _).alloc _ _).alloc _ _) _) _⟩

set_option maxRecDepth 100000 in
set_option maxHeartbeats 1000000 in
theorem walk_d (fixed r0 r1 r2 r3 p left tally paid why : Int) (w : World) (ht0 : 0 ≤ tally) (ht1 : tally ≤ 18446744073709551615) (hs : tally < 9223372036854775808) (h2 : (why == 2) = false) :
    Calls Yba.prog 3 #[.int .u64 fixed, .agg #[.int .u32 r0, .int .u32 r1, .int .u32 r2, .int .u32 r3], .int .i64 p, .int .i64 left, .int .u64 tally, .int .i64 paid, .int .u8 why] w fun e w' => e = .returned (.bool true) ∧ Grown w w' := by
  have hq := beq_iff_eq.2 (plain fixed r0 r1 r2 left tally paid (tally / 18014398509481984) ht0 ht1 (by rw [round_lo tally hs ht0]))
  have hy : stWhy tally paid why = why := by unfold stWhy; rw [if_neg (by have := beq_eq_false_iff_ne.1 h2; omega)]
  go_enter Yba.func3, Yba.ntmps3
  go_wp2_with (go_at_call 5; refine (stretched_any _ fixed r0 r1 r2 _ _ _ _ _ _ ht0 ht1 (by simp) (by simp) (by simp) (by simp)).mono ?_; rintro e w' ⟨rfl, nq, rfl⟩)
  go_quiet (fail)
  go_wp2
  go_ret
  exact ⟨rfl, gdrewN (gdrewN (((Grown.refl _).alloc _ _).alloc _ _) _) _⟩

set_option maxRecDepth 100000 in
set_option maxHeartbeats 1000000 in
theorem walk_e (fixed r0 r1 r2 r3 p left tally paid why : Int) (w : World) (ht0 : 0 ≤ tally) (ht1 : tally ≤ 18446744073709551615) (hs : ¬ tally < 9223372036854775808) (h2 : (why == 2) = false) :
    Calls Yba.prog 3 #[.int .u64 fixed, .agg #[.int .u32 r0, .int .u32 r1, .int .u32 r2, .int .u32 r3], .int .i64 p, .int .i64 left, .int .u64 tally, .int .i64 paid, .int .u8 why] w fun e w' => e = .returned (.bool true) ∧ Grown w w' := by
  have hq := beq_iff_eq.2 (plain fixed r0 r1 r2 left tally paid (IntKind.u64.wrap (tally / 18014398509481984 - 1024)) ht0 ht1 (by rw [round_hi tally hs ht1, u64_mod]; omega))
  have hy : stWhy tally paid why = why := by unfold stWhy; rw [if_neg (by have := beq_eq_false_iff_ne.1 h2; omega)]
  go_enter Yba.func3, Yba.ntmps3
  go_wp2_with (go_at_call 5; refine (stretched_any _ fixed r0 r1 r2 _ _ _ _ _ _ ht0 ht1 (by simp) (by simp) (by simp) (by simp)).mono ?_; rintro e w' ⟨rfl, nq, rfl⟩)
  go_quiet (fail)
  go_wp2
  go_ret
  exact ⟨rfl, gdrewN (gdrewN (((Grown.refl _).alloc _ _).alloc _ _) _) _⟩

theorem law_walk (fixed r0 r1 r2 r3 p left tally paid why : Int) (w : World) (ht0 : 0 ≤ tally) (ht1 : tally ≤ 18446744073709551615) :
    Calls Yba.prog 3 #[.int .u64 fixed, .agg #[.int .u32 r0, .int .u32 r1, .int .u32 r2, .int .u32 r3], .int .i64 p, .int .i64 left, .int .u64 tally, .int .i64 paid, .int .u8 why] w fun e w' => e = .returned (.bool true) ∧ Grown w w' := by
  by_cases hs : tally < 9223372036854775808
  · by_cases h2 : why = 2
    · subst h2
      by_cases h3 : 0 < paid
      · exact walk_a fixed r0 r1 r2 r3 p left tally paid w ht0 ht1 hs h3
      · exact walk_b fixed r0 r1 r2 r3 p left tally paid w ht0 ht1 hs (by omega)
    · exact walk_d fixed r0 r1 r2 r3 p left tally paid why w ht0 ht1 hs (beq_eq_false_iff_ne.2 h2)
  · by_cases h2 : why = 2
    · subst h2
      exact walk_c fixed r0 r1 r2 r3 p left tally paid w ht0 ht1 hs
    · exact walk_e fixed r0 r1 r2 r3 p left tally paid why w ht0 ht1 hs (beq_eq_false_iff_ne.2 h2)
end Go.Proofs.Ybulkdzku

/- 6297C: the entries' codes, the small functions. -/
import Derived.Test.YbulkdzjsS7
import Derived.Handy
namespace Go.Proofs.Ybulkdzjs.A
open Go.RowKit Flt
attribute [local go_sem] run_store_flt f15 f14 run_negf

/-- A code's word and its mark. -/
def wd : Nat → Nat
  | 1 => 4607182418800017408
  | 2 => 4611686018427387904
  | 3 => 13830554455654793216
  | 4 => 9218868437227405312
  | 5 => 9221120237041090561
  | _ => 0
def vd (c : Nat) : Bool := c != 0
/-- The entry that a code stands for. -/
def ent (c : Nat) : Value := .agg #[.float .f64 (wd c), .bool (vd c)]

theorem inf_f (w : World) : Calls Yba.prog 25 #[.int .i64 1] w fun e w' => e = .returned (.float .f64 9218868437227405312) ∧ w' = w := by
  go_enter Yba.func25, Yba.ntmps25
  go_wp2
  go_ret
  exact ⟨rfl, rfl⟩
theorem nan_f (w : World) : Calls Yba.prog 26 #[] w fun e w' => e = .returned (.float .f64 9221120237041090561) ∧ w' = w := by
  go_enter Yba.func26, Yba.ntmps26
  go_wp2
  go_ret
  exact ⟨rfl, rfl⟩

set_option maxHeartbeats 2000000 in
theorem cval_f (c : Int) (k : Nat) (w : World) (hc : 0 ≤ c ∧ c ≤ 255) (hk : c % 6 = k) : Calls Yba.prog 16 #[.int .u8 c] w fun e w' => e = .returned (ent k) ∧ Below w.heap.size w w' := by
  have h6 : k = 0 ∨ k = 1 ∨ k = 2 ∨ k = 3 ∨ k = 4 ∨ k = 5 := by omega
  go_enter Yba.func16, Yba.ntmps16
  rcases h6 with rfl | rfl | rfl | rfl | rfl | rfl
  all_goals go_wp2_with (first
    | (go_at_call 25; refine (inf_f _).mono ?_; rintro e w' ⟨rfl, rfl⟩)
    | (go_at_call 26; refine (nan_f _).mono ?_; rintro e w' ⟨rfl, rfl⟩)
    | fail)
  all_goals go_returns
  all_goals exact ⟨rfl, (Below.refl _ _).alloc (Nat.le_refl _) _⟩

set_option maxHeartbeats 2000000 in
theorem isInf_g (a : Nat) (ha : a < 18446744073709551616) (b : Bool) (hb : (FloatKind.f64.format.order (a % 9223372036854775808) 9218868437227405311 == some .gt) = b) (w : World) :
    Calls Yba.prog 45 #[.float .f64 a, .int .i64 0] w fun e w' => e = .returned (.bool b) ∧ w' = w := by
  go_enter Yba.func45, Yba.ntmps45
  go_wp2_with (first | (go_at_call 30; refine (abs_any _ _ ha).mono ?_; rintro e w' ⟨rfl, rfl⟩) | fail)
  go_ret
  exact ⟨rfl, rfl⟩
theorem isNaN_g (a : Nat) (b : Bool) (hb : (FloatKind.f64.format.order a a != some .eq) = b) (w : World) : Calls Yba.prog 53 #[.float .f64 a] w fun e w' => e = .returned (.bool b) ∧ w' = w := by
  go_enter Yba.func53, Yba.ntmps53
  go_wp2
  go_ret
  exact ⟨rfl, rfl⟩
/-- Is it a finite number's code? -/
def fin (c : Nat) : Bool := c == 1 || c == 2 || c == 3
set_option maxHeartbeats 2000000 in
theorem finite_f (c : Nat) (h6 : c = 1 ∨ c = 2 ∨ c = 3 ∨ c = 4 ∨ c = 5) (w : World) : Calls Yba.prog 43 #[.float .f64 (wd c)] w fun e w' => e = .returned (.bool (fin c)) ∧ w' = w := by
  have key : ∀ (a : Nat) (p q : Bool), a < 18446744073709551616 → (FloatKind.f64.format.order (a % 9223372036854775808) 9218868437227405311 == some .gt) = p → (FloatKind.f64.format.order a a != some .eq) = q →
      Calls Yba.prog 43 #[.float .f64 a] w fun e w' => e = .returned (.bool (!p && !q)) ∧ w' = w := fun a p q ha hp hq => by
    have h1 := isInf_g a ha p hp
    have h2 := isNaN_g a q hq
    clear hp hq
    go_enter Yba.func43, Yba.ntmps43
    cases p <;> go_wp2_with (first
      | (go_at_call 45; refine (h1 _).mono ?_; rintro e w' ⟨rfl, rfl⟩)
      | (go_at_call 53; refine (h2 _).mono ?_; rintro e w' ⟨rfl, rfl⟩)
      | fail)
    all_goals go_ret
    all_goals exact ⟨rfl, rfl⟩
  rcases h6 with rfl | rfl | rfl | rfl | rfl
  · exact key _ false false (by decide) (by decide) (by decide)
  · exact key _ false false (by decide) (by decide) (by decide)
  · exact key _ false false (by decide) (by decide) (by decide)
  · exact key _ true false (by decide) (by decide) (by decide)
  · exact key _ false true (by decide) (by decide) (by decide)

set_option maxHeartbeats 2000000 in
/-- zzs6297csame of an entry and itself. -/
theorem same_f (c : Nat) (w : World) : Calls Yba.prog 18 #[ent c, ent c] w fun e w' => e = .returned (.bool true) ∧ Below w.heap.size w w' := by
  obtain ⟨x, hx⟩ : ∃ x, wd c = x := ⟨_, rfl⟩
  obtain ⟨b, hb⟩ : ∃ b, vd c = b := ⟨_, rfl⟩
  unfold ent
  rw [hx, hb]
  clear hx hb
  have hbb : (b == b) = true := by cases b <;> rfl
  go_enter Yba.func18, Yba.ntmps18
  go_wp2
  go_quiet (fail)
  go_wp2
  go_ret
  refine ⟨rfl, below_drewN (((Below.refl _ _).alloc (Nat.le_refl _) _).alloc ?_ _) _⟩
  show _ ≤ (w.heap.push _).size
  simp
end Go.Proofs.Ybulkdzjs.A

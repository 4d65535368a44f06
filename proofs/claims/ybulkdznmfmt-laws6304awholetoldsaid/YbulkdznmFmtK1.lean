/- 6304A: the names: zzs6304aok, ValidScopeName. -/
import Derived.Test.YbulkdznmFmtK0
namespace Go.Proofs.YbulkdznmFmt.A
open Go.RowKit

/-- Byte k of a string. -/
def bt (s : ByteArray) (k : Nat) : Int := if h : k < s.size then ((s[k]'h).toNat : Int) else 0
/-- May the byte c stand at place k of a name? -/
def chr (k : Nat) (c : Int) : Bool := decide ((48 ≤ c ∧ c ≤ 57) ∨ (97 ≤ c ∧ c ≤ 122) ∨ (65 ≤ c ∧ c ≤ 90) ∨ ((c = 95 ∨ c = 45) ∧ 0 < k))
/-- Is it a name? -/
def okN (s : ByteArray) : Bool := !s.toList.isEmpty && decide (s.size ≤ 64) && decide (∀ k, k < s.size → chr k (bt s k) = true)

set_option maxRecDepth 100000 in
set_option maxHeartbeats 2000000 in
theorem ok_f (s : ByteArray) (w : World) : Calls Ybaf.prog 12 #[.string s] w fun e w' => e = .returned (.bool (okN s)) ∧ w' = w := by
  obtain ⟨b0, hb0⟩ : ∃ b, s.toList.isEmpty = b := ⟨_, rfl⟩
  cases b0
  · by_cases h64 : s.size ≤ 64
    · have h64' : (s.size : Int) ≤ 64 := by omega
      have h64d : decide ((64 : Int) < (s.size : Int)) = false := by simp; omega
      have hv : Hid (okN s = decide (∀ k, k < s.size → chr k (bt s k) = true)) := by unfold Hid okN; rw [hb0]; simp [h64]
      go_enter Ybaf.func12, Ybaf.ntmps12
      go_wp2_with fail
      go_loopw [3] (fun v wr => ∃ k : Nat, v = .int .i64 k ∧ k ≤ s.size ∧ wr = w ∧ Hid (∀ m, m < k → chr m (bt s m) = true)) (fun v _ => s.size - (intOf v).toNat)
      case atStart => exact ⟨0, rfl, Nat.zero_le _, rfl, fun m h => absurd h (Nat.not_lt_zero m)⟩
      case round =>
        obtain ⟨k, rfl, hk, hwr, HM⟩ := hrel
        rw [hwr]
        clear hwr
        by_cases hlt : k < s.size
        · have hlt' : (k : Int) < s.size := by omega
          have hbt : Hid (bt s k = (s[k].toNat : Int)) := by unfold Hid bt; rw [dif_pos hlt]
          go_upto_region 8 with fail
          obtain ⟨c, hc⟩ : ∃ c : Nat, Hid (s[k].toNat = c) := ⟨_, hide rfl⟩
          rw [hc.out]
          have hbc : Hid (bt s k = (c : Int)) := by unfold Hid; rw [hbt.out, hc.out]
          have hc5 : c ≤ 255 := by rw [← hc.out]; exact Nat.le_of_lt_succ (UInt8.toNat_lt _)
          clear hbt hc
          have nx : Hid (chr k (c : Int) = true → ∀ m, m < k + 1 → chr m (bt s m) = true) := hide (fun h m hm => by
            rcases Nat.lt_or_ge m k with h' | h'
            · exact HM.out m h'
            · obtain rfl : m = k := by omega
              rw [hbc.out]; exact h)
          have bd : Hid (¬ chr k (c : Int) = true → okN s = false) := hide (fun h => by
            rw [hv.out, decide_eq_false_iff_not]; intro h'; exact h (by rw [← hbc.out]; exact h' k hlt))
          clear hbc
          go_wp2_with fail
          all_goals first
            | exact ⟨⟨k + 1, by go_num, by omega, trivial, hide (nx.out (by unfold chr; rw [decide_eq_true_iff]; omega))⟩, by simp [intOf]; omega⟩
            | (go_ret; exact ⟨by rw [bd.out (by unfold chr; rw [decide_eq_true_iff]; omega)]; rfl, rfl⟩)
        · have hlt' : ¬ (k : Int) < s.size := by omega
          go_wp2_with fail
          go_ret
          refine ⟨?_, rfl⟩
          rw [hv.out, decide_eq_true (fun m hm => HM.out m (by omega))]
          rfl
    · have h64d : decide ((64 : Int) < (s.size : Int)) = true := by simp; omega
      have h64' : (64 : Int) < s.size := by omega
      go_enter Ybaf.func12, Ybaf.ntmps12
      go_wp2_with fail
      go_ret
      exact ⟨by unfold okN; simp [h64], rfl⟩
  · go_enter Ybaf.func12, Ybaf.ntmps12
    go_wp2_with fail
    go_ret
    exact ⟨by unfold okN; rw [hb0]; rfl, rfl⟩

set_option linter.unusedSimpArgs false in
set_option maxRecDepth 100000 in
set_option maxHeartbeats 2000000 in
theorem valid_f (s : ByteArray) (w : World) : Calls Ybaf.prog 16 #[.string s] w fun e w' => e = .returned (.bool (okN s)) ∧ w' = w := by
  have hsz : s.toList.isEmpty = decide (s.size = 0) := by
    rw [ByteArray.toList_eq]
    obtain ⟨⟨l⟩⟩ := s
    cases l <;> simp [ByteArray.size]
  by_cases hs0 : s.size = 0
  · have hs0' : ((s.size : Int) == 0) = true := by simp [hs0]
    go_enter Ybaf.func16, Ybaf.ntmps16
    go_wp2_with fail
    go_ret
    exact ⟨by unfold okN; rw [hsz]; simp [hs0], rfl⟩
  · have hs0' : ((s.size : Int) == 0) = false := by rw [beq_eq_false_iff_ne]; omega
    by_cases h64 : s.size ≤ 64
    · have h64' : (s.size : Int) ≤ 64 := by omega
      have h64d : decide ((64 : Int) < (s.size : Int)) = false := by simp; omega
      have hv : Hid (okN s = decide (∀ k, k < s.size → chr k (bt s k) = true)) := by unfold Hid okN; rw [hsz]; simp [h64, hs0]
      clear hsz
      go_enter Ybaf.func16, Ybaf.ntmps16
      go_wp2_with fail
      go_loopw [3] (fun v wr => ∃ k : Nat, v = .int .i64 k ∧ k ≤ s.size ∧ wr = w ∧ Hid (∀ m, m < k → chr m (bt s m) = true)) (fun v _ => s.size - (intOf v).toNat)
      case atStart => exact ⟨0, rfl, Nat.zero_le _, rfl, fun m h => absurd h (Nat.not_lt_zero m)⟩
      case round =>
        obtain ⟨k, rfl, hk, hwr, HM⟩ := hrel
        rw [hwr]
        clear hwr
        by_cases hlt : k < s.size
        · have hlt' : (k : Int) < s.size := by omega
          have hbt : Hid (bt s k = (s[k].toNat : Int)) := by unfold Hid bt; rw [dif_pos hlt]
          go_upto_region 7 with fail
          obtain ⟨c, hc⟩ : ∃ c : Nat, Hid (s[k].toNat = c) := ⟨_, hide rfl⟩
          rw [hc.out]
          have hbc : Hid (bt s k = (c : Int)) := by unfold Hid; rw [hbt.out, hc.out]
          have hc5 : c ≤ 255 := by rw [← hc.out]; exact Nat.le_of_lt_succ (UInt8.toNat_lt _)
          clear hbt hc
          have nx : Hid (chr k (c : Int) = true → ∀ m, m < k + 1 → chr m (bt s m) = true) := hide (fun h m hm => by
            rcases Nat.lt_or_ge m k with h' | h'
            · exact HM.out m h'
            · obtain rfl : m = k := by omega
              rw [hbc.out]; exact h)
          have bd : Hid (¬ chr k (c : Int) = true → okN s = false) := hide (fun h => by
            rw [hv.out, decide_eq_false_iff_not]; intro h'; exact h (by rw [← hbc.out]; exact h' k hlt))
          clear hbc
          by_cases h95 : c = 95
          · subst h95
            go_wp2_with fail
            all_goals first
              | exact ⟨⟨k + 1, by go_num, by omega, trivial, hide (nx.out (by unfold chr; rw [decide_eq_true_iff]; omega))⟩, by simp [intOf]; omega⟩
              | (go_ret; exact ⟨by rw [bd.out (by unfold chr; rw [decide_eq_true_iff]; omega)]; rfl, rfl⟩)
              | (exfalso; go_light; simp only [Bool.not_eq_true', Bool.not_eq_false', decide_eq_true_eq, decide_eq_false_iff_not] at *; omega)
          · have e95 : ((c : Int) != 95) = true := by simp; omega
            by_cases h45 : c = 45
            · subst h45
              go_wp2_with fail
              all_goals first
                | exact ⟨⟨k + 1, by go_num, by omega, trivial, hide (nx.out (by unfold chr; rw [decide_eq_true_iff]; omega))⟩, by simp [intOf]; omega⟩
                | (go_ret; exact ⟨by rw [bd.out (by unfold chr; rw [decide_eq_true_iff]; omega)]; rfl, rfl⟩)
                | (exfalso; go_light; simp only [Bool.not_eq_true', Bool.not_eq_false', decide_eq_true_eq, decide_eq_false_iff_not] at *; omega)
            · have e45 : ((c : Int) != 45) = true := by simp; omega
              go_wp2_with fail
              all_goals first
                | exact ⟨⟨k + 1, by go_num, by omega, trivial, hide (nx.out (by unfold chr; rw [decide_eq_true_iff]; omega))⟩, by simp [intOf]; omega⟩
                | (go_ret; exact ⟨by rw [bd.out (by unfold chr; rw [decide_eq_true_iff]; omega)]; rfl, rfl⟩)
                | (exfalso; go_light; simp only [Bool.not_eq_true', Bool.not_eq_false', decide_eq_true_eq, decide_eq_false_iff_not] at *; omega)
        · have hlt' : ¬ (k : Int) < s.size := by omega
          go_wp2_with fail
          go_ret
          refine ⟨?_, rfl⟩
          rw [hv.out, decide_eq_true (fun m hm => HM.out m (by omega))]
          rfl
    · have h64d : decide ((64 : Int) < (s.size : Int)) = true := by simp; omega
      have h64' : (64 : Int) < s.size := by omega
      go_enter Ybaf.func16, Ybaf.ntmps16
      go_wp2_with fail
      go_ret
      exact ⟨by unfold okN; simp [h64], rfl⟩
end Go.Proofs.YbulkdznmFmt.A

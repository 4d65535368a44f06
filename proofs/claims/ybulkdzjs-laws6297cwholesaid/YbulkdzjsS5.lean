/- The library's sort at float64: partialInsertionSort. -/
import Derived.Test.YbulkdzjsS4
import Derived.Sort.WalkA6
namespace Go.Proofs.Ybulkdzjs.A
open Go.RowKit Flt Go.Sort
attribute [local go_sem] run_store_flt

set_option maxRecDepth 100000 in
set_option maxHeartbeats 4000000 in
/-- slices.partialInsertionSortOrdered at float64. -/
theorem partialInsertionSort_f (blk N cap a b : Nat) (d : Array Sv) (W w : World) (hF : Fr W blk N d w) (hab : a < b) (hb : b ≤ N) (hN : N ≤ 65536) :
    Calls Yba.prog 61 #[.slice (some ⟨blk, 0, none⟩) N cap, .int .i64 a, .int .i64 b] w fun e w' => e = .returned (.bool (Sort.partialInsertionSort lts d a b).2) ∧ Fr W blk N (Sort.partialInsertionSort lts d a b).1 w' := by
  have HF : Hid (Fr W blk N d w) := hF
  clear hF
  go_enter Yba.func61, Yba.ntmps61
  go_wp2_with fail
  go_loopg [7, 8] 5 (fun k vi vj wr => ∃ (i s : Nat) (dk : Array Sv), vi = .int .i64 i ∧ vj = .int .i64 s ∧ s + k = 5 ∧ a < i ∧ i ≤ b ∧ Hid (Fr W blk N dk wr ∧ partialIns lts a b k i dk = partialIns lts a b 5 (a + 1) d))
  case atStart => exact ⟨a + 1, 0, d, by go_num, rfl, rfl, by omega, by omega, hide ⟨HF.out, rfl⟩⟩
  case round =>
    obtain ⟨i, s, dk, rfl, rfl, hs5, hai, hib, HO⟩ := hrel
    cases gk with
    | zero =>
      obtain rfl : s = 5 := by omega
      go_wp2_with fail
      go_ret
      unfold Sort.partialInsertionSort
      rw [← HO.out.2]
      exact ⟨rfl, HO.out.1⟩
    | succ k =>
      obtain ⟨G, hG, hS⟩ := names dk
      have hs0 : s < 5 := by omega
      have hs1 : (s : Int) < 5 := by omega
      go_upto_block 2 with fail
      go_cut [7] (fun vi wx => ∃ i2 : Nat, vi = .int .i64 i2 ∧ i ≤ i2 ∧ i2 ≤ b ∧ Hid (Fr W blk N dk wx ∧ scanSorted lts dk b i = i2))
      case first =>
        go_wp2_with fail
        go_loopw [7] (fun vi w1 => ∃ i' : Nat, vi = .int .i64 i' ∧ i ≤ i' ∧ i' ≤ b ∧ Hid (Fr W blk N dk w1 ∧ scanSorted lts dk b i' = scanSorted lts dk b i)) (fun vi _ => b - (intOf vi).toNat)
        case atStart => exact ⟨i, rfl, Nat.le_refl _, hib, hide ⟨HO.out.1, rfl⟩⟩
        case round =>
          obtain ⟨i', rfl, hii, hib', HP⟩ := hrel
          by_cases hlt : i' < b
          · obtain ⟨p, hp⟩ : ∃ p : Nat, (i' : Int) - 1 = p := ⟨i' - 1, by omega⟩
            have hp' : Hid (i' - 1 = p) := hide (by omega)
            have c1 := HP.out.1.cell hG (i := i') (by omega)
            have c2 := HP.out.1.cell hG (i := p) (by omega)
            have i3 : (i' : Int) < N := by omega
            have i4 : (p : Int) < N := by omega
            go_wp2_with fail
            go_quiet (first | (go_at_call 62; refine Calls.quiet_of_same (less_f _ _ (hS _) (hS _) _)))
            go_wp2
            · have ht : ltI (G i') (G p) = false := by
                have : (!ltI (G i') (G p)) = true := by assumption
                simpa using this
              go_roundw
              case rel => exact ⟨i' + 1, by go_num, by omega, by omega, hide ⟨HP.out.1.drewN _, (scanSorted_go lts dk b i' hlt (by rw [hp'.out]; exact lt_of_G hG ht)).symm.trans HP.out.2⟩⟩
              case measure => simp [intOf]; omega
            · have ht : ltI (G i') (G p) = true := by
                have : (!ltI (G i') (G p)) = false := by assumption
                simpa using this
              go_meet
              case rel => exact ⟨i', rfl, hii, hib', hide ⟨HP.out.1.drewN _, HP.out.2.symm.trans (scanSorted_stop lts dk b i' (Or.inr (by rw [hp'.out]; exact lt_of_G hG ht)))⟩⟩
          · go_wp2_with fail
            go_quiet (first | (go_at_call 62; refine Calls.quiet_of_same (less_f _ _ (hS _) (hS _) _)))
            go_wp2
            go_meet
            case rel => exact ⟨i', rfl, hii, hib', hide ⟨HP.out.1.drewN _, HP.out.2.symm.trans (scanSorted_stop lts dk b i' (Or.inl hlt))⟩⟩
      case rest =>
        obtain ⟨i2, rfl, hii, hi2b, HP⟩ := hcut
        by_cases hib2 : i2 = b
        · have HE := hide (partialIns_succ (lt := lts) a b k i dk)
          have hib3 : ((i2 : Int) == b) = true := by simp; omega
          go_wp2_with fail
          go_ret
          have e := HO.out.2
          rw [HE.out, HP.out.2, if_pos hib2] at e
          unfold Sort.partialInsertionSort
          rw [← e]
          exact ⟨rfl, HP.out.1⟩
        · have hib3 : ((i2 : Int) == b) = false := by simp; omega
          by_cases h50 : b - a < 50
          · have h51 : (b : Int) - a < 50 := by omega
            have HE := hide (partialIns_succ (lt := lts) a b k i dk)
            go_wp2_with fail
            go_ret
            have e := HO.out.2
            rw [HE.out, HP.out.2, if_neg hib2, if_pos h50] at e
            unfold Sort.partialInsertionSort
            rw [← e]
            exact ⟨rfl, HP.out.1⟩
          · have h51 : ¬ (b : Int) - a < 50 := by omega
            have HE : Hid (partialIns lts a b k i2 (fixUp lts b i2 (fixDown lts a i2 (swp dk i2 (i2 - 1)))) = partialIns lts a b 5 (a + 1) d) := hide (by
              have e := HO.out.2
              rw [partialIns_succ, HP.out.2, if_neg hib2, if_neg h50] at e
              exact e)
            obtain ⟨p, hp⟩ : ∃ p : Nat, (i2 : Int) - 1 = p := ⟨i2 - 1, by omega⟩
            have hp' : Hid (i2 - 1 = p) := hide (by omega)
            have c1 := HP.out.1.cell hG (i := i2) (by omega)
            have c2 := HP.out.1.cell hG (i := p) (by omega)
            have f1 := HP.out.1.frozen (i := i2) (by omega)
            have f2 := HP.out.1.frozen (i := p) (by omega)
            have i3 : (i2 : Int) < N := by omega
            have i4 : (p : Int) < N := by omega
            obtain ⟨v3, c3⟩ := cell?_setCell_some (p := ⟨blk, i2, none⟩) (x := .float .f64 (F (G p))) c2
            go_wp2_with fail
            go_region
            have HR := hide (HP.out.1.swapD hG i2 p)
            obtain ⟨d1, hd1⟩ : ∃ d1 : Array Sv, Hid (d1 = swp dk i2 p) := ⟨_, hide rfl⟩
            rw [← hd1.out] at HR
            generalize ((wc.setCell ⟨blk, i2, none⟩ (.float .f64 (F (G p)))).setCell ⟨blk, p, none⟩ (.float .f64 (F (G i2)))).drew = wd at HR ⊢
            clear c1 c2 c3 f1 f2 hG hS HO
            go_upto_if 61 with fail
            go_cut [] (fun wx => Hid (Fr W blk N (fixDown lts a i2 d1) wx))
            case first =>
              by_cases h2 : i2 - a ≥ 2
              · have h3 : (2 : Int) ≤ (i2 : Int) - a := by omega
                go_wp2_with fail
                go_loopw [9] (fun vj w1 => ∃ (j : Nat) (dj : Array Sv), vj = .int .i64 j ∧ j ≤ p ∧ Hid (Fr W blk N dj w1 ∧ shiftDown lts j dj = shiftDown lts p d1)) (fun vj _ => (intOf vj).toNat)
                case atStart => exact ⟨p, d1, rfl, Nat.le_refl _, hide ⟨HR.out, rfl⟩⟩
                case round =>
                  obtain ⟨j, dj, rfl, hjp, HQ⟩ := hrel
                  have out : Hid (shiftDown lts j dj = dj → Fr W blk N (fixDown lts a i2 d1) wr) := fun e => by
                    unfold fixDown
                    rw [if_pos h2, hp'.out, ← HQ.out.2, e]
                    exact HQ.out.1
                  by_cases h1 : 1 ≤ j
                  · obtain ⟨G, hG, hS⟩ := names dj
                    obtain ⟨q, hq⟩ : ∃ q : Nat, (j : Int) - 1 = q := ⟨j - 1, by omega⟩
                    have hq' : Hid (j - 1 = q) := hide (by omega)
                    have c1 := HQ.out.1.cell hG (i := j) (by omega)
                    have c2 := HQ.out.1.cell hG (i := q) (by omega)
                    have f1 := HQ.out.1.frozen (i := j) (by omega)
                    have f2 := HQ.out.1.frozen (i := q) (by omega)
                    have i5 : (j : Int) < N := by omega
                    have i6 : (q : Int) < N := by omega
                    obtain ⟨v3, c3⟩ := cell?_setCell_some (p := ⟨blk, j, none⟩) (x := .float .f64 (F (G q))) c2
                    go_wp2_with fail
                    go_quiet (first | (go_at_call 62; refine Calls.quiet_of_same (less_f _ _ (hS _) (hS _) _)))
                    go_wp2_with fail
                    · have ht : ltI (G j) (G q) = false := by
                        have : (!ltI (G j) (G q)) = true := by assumption
                        simpa using this
                      go_meet
                      case rel => exact hide ((out.out (shiftDown_stop lts j dj (Or.inr (by rw [hq'.out]; exact lt_of_G hG ht)))).drewN _)
                    · have ht : ltI (G j) (G q) = true := by
                        have : (!ltI (G j) (G q)) = false := by assumption
                        simpa using this
                      go_region
                      go_wp2_with fail
                      go_roundw
                      case rel =>
                        refine ⟨q, swp dj j q, rfl, by omega, hide ⟨HQ.out.1.swapG hG _ j q, ?_⟩⟩
                        rw [← HQ.out.2, shiftDown_go lts j dj h1 (by rw [hq'.out]; exact lt_of_G hG ht), hq'.out]
                      case measure => simp [intOf]; omega
                  · go_wp2_with fail
                    go_meet
                    case rel => exact hide (out.out (shiftDown_stop lts j dj (Or.inl (by omega))))
              · have h3 : ¬ (2 : Int) ≤ (i2 : Int) - a := by omega
                go_wp2_with fail
                go_meet
                case rel =>
                  unfold fixDown
                  rw [if_neg h2]
                  exact HR
            case rest =>
              obtain ⟨d2, hd2⟩ : ∃ d2 : Array Sv, Hid (d2 = fixDown lts a i2 d1) := ⟨_, hide rfl⟩
              rw [← hd2.out] at hcut
              obtain ⟨we, rfl⟩ : ∃ we : World, we = wc := ⟨_, rfl⟩
              clear HR
              go_upto_if 98 with fail
              by_cases h2 : b - i2 ≥ 2
              · have h3 : (2 : Int) ≤ (b : Int) - i2 := by omega
                go_wp2_with fail
                go_loopw [10] (fun vj w1 => ∃ (j : Nat) (dj : Array Sv), vj = .int .i64 j ∧ i2 < j ∧ j ≤ b ∧ Hid (Fr W blk N dj w1 ∧ shiftUp lts b j dj = shiftUp lts b (i2 + 1) d2)) (fun vj _ => b - (intOf vj).toNat)
                case atStart => exact ⟨i2 + 1, d2, by go_num, by omega, by omega, hide ⟨hcut.out, rfl⟩⟩
                case round =>
                  obtain ⟨j, dj, rfl, hjp, hjb, HQ⟩ := hrel
                  have out : Hid (shiftUp lts b j dj = dj → Fr W blk N (fixUp lts b i2 d2) wr) := fun e => by
                    unfold fixUp
                    rw [if_pos h2, ← HQ.out.2, e]
                    exact HQ.out.1
                  by_cases h1 : j < b
                  · obtain ⟨G, hG, hS⟩ := names dj
                    obtain ⟨q, hq⟩ : ∃ q : Nat, (j : Int) - 1 = q := ⟨j - 1, by omega⟩
                    have hq' : Hid (j - 1 = q) := hide (by omega)
                    have c1 := HQ.out.1.cell hG (i := j) (by omega)
                    have c2 := HQ.out.1.cell hG (i := q) (by omega)
                    have f1 := HQ.out.1.frozen (i := j) (by omega)
                    have f2 := HQ.out.1.frozen (i := q) (by omega)
                    have i5 : (j : Int) < N := by omega
                    have i6 : (q : Int) < N := by omega
                    obtain ⟨v3, c3⟩ := cell?_setCell_some (p := ⟨blk, j, none⟩) (x := .float .f64 (F (G q))) c2
                    go_wp2_with fail
                    go_quiet (first | (go_at_call 62; refine Calls.quiet_of_same (less_f _ _ (hS _) (hS _) _)))
                    go_wp2_with fail
                    · have ht : ltI (G j) (G q) = false := by
                        have : (!ltI (G j) (G q)) = true := by assumption
                        simpa using this
                      go_wp2_with fail
                      go_roundg k
                      case measure => omega
                      case rel =>
                        refine ⟨i2, s + 1, _, rfl, by go_num, by omega, by omega, by omega, hide ⟨(out.out (shiftUp_stop lts b j dj (Or.inr (by rw [hq'.out]; exact lt_of_G hG ht)))).drewN _, ?_⟩⟩
                        rw [hd2.out, hd1.out, ← hp'.out]
                        exact HE.out
                    · have ht : ltI (G j) (G q) = true := by
                        have : (!ltI (G j) (G q)) = false := by assumption
                        simpa using this
                      go_region
                      go_wp2_with fail
                      go_roundw
                      case rel =>
                        refine ⟨j + 1, swp dj j q, by go_num, by omega, by omega, hide ⟨HQ.out.1.swapG hG _ j q, ?_⟩⟩
                        rw [← HQ.out.2, shiftUp_go lts b j dj h1 (by rw [hq'.out]; exact lt_of_G hG ht), hq'.out]
                      case measure => simp [intOf]; omega
                  · go_wp2_with fail
                    go_wp2_with fail
                    go_roundg k
                    case measure => omega
                    case rel =>
                      refine ⟨i2, s + 1, _, rfl, by go_num, by omega, by omega, by omega, hide ⟨out.out (shiftUp_stop lts b j dj (Or.inl (by omega))), ?_⟩⟩
                      rw [hd2.out, hd1.out, ← hp'.out]
                      exact HE.out
              · have h3 : ¬ (2 : Int) ≤ (b : Int) - i2 := by omega
                have hcut0 : Hid (Fr W blk N (fixUp lts b i2 d2) we) := hide (by unfold fixUp; rw [if_neg h2]; exact hcut.out)
                go_wp2_with fail
                go_roundg k
                case measure => omega
                case rel =>
                  refine ⟨i2, s + 1, _, rfl, by go_num, by omega, by omega, by omega, hide ⟨hcut0.out, ?_⟩⟩
                  rw [hd2.out, hd1.out, ← hp'.out]
                  exact HE.out
end Go.Proofs.Ybulkdzjs.A

/- The library's sort at float64: partitionEqual. -/
import Derived.Test.YbulkdzjsS2
import Derived.Sort.WalkC4
namespace Go.Proofs.Ybulkdzjs.A
open Go.RowKit Flt Go.Sort
attribute [local go_sem] run_store_flt

theorem Fr.swapD {W w : World} {blk N : Nat} {d : Array Sv} (h : Fr W blk N d w) {G : Nat → Int} (hG : Hid (∀ t, G t = (d[t]!).1)) (i j : Nat) : Fr W blk N (swp d i j) ((w.setCell ⟨blk, i, none⟩ (.float .f64 (F (G j)))).setCell ⟨blk, j, none⟩ (.float .f64 (F (G i)))).drew := by
  rw [hG.out, hG.out]; exact (h.swap i j).drew

set_option maxRecDepth 100000 in
set_option maxHeartbeats 4000000 in
/-- slices.partitionEqualOrdered at float64. -/
theorem partitionEqual_f (blk N cap a b pivot : Nat) (d : Array Sv) (W w : World) (hF : Fr W blk N d w) (hap : a ≤ pivot) (hpb : pivot < b) (hb : b ≤ N) (hN : N ≤ 65536) :
    Calls Yba.prog 63 #[.slice (some ⟨blk, 0, none⟩) N cap, .int .i64 a, .int .i64 b, .int .i64 pivot] w fun e w' => e = .returned (.int .i64 (Sort.partitionEqual lts d a b pivot).1) ∧ Fr W blk N (Sort.partitionEqual lts d a b pivot).2 w' := by
  have HF : Hid (Fr W blk N d w) := hF
  clear hF
  obtain ⟨L, hL⟩ : ∃ L : Nat, (b : Int) - 1 = L := ⟨b - 1, by omega⟩
  obtain ⟨G, hG, hS⟩ := names d
  have c1 := HF.out.cell hG (i := a) (by omega)
  have c2 := HF.out.cell hG (i := pivot) (by omega)
  have f1 := HF.out.frozen (i := a) (by omega)
  have f2 := HF.out.frozen (i := pivot) (by omega)
  have i1 : (a : Int) < N := by omega
  have i2 : (pivot : Int) < N := by omega
  obtain ⟨v3, c3⟩ := cell?_setCell_some (p := ⟨blk, a, none⟩) (x := .float .f64 (F (G pivot))) c2
  go_enter Yba.func63, Yba.ntmps63
  go_wp2_with fail
  go_region
  go_wp2_with fail
  have HF1 := hide (HF.out.swapD hG a pivot)
  generalize ((w.setCell ⟨blk, a, none⟩ (.float .f64 (F (G pivot)))).setCell ⟨blk, pivot, none⟩ (.float .f64 (F (G a)))).drew = w1 at HF1 ⊢
  clear c1 c2 f1 f2 c3 hG hS
  go_loopg [9, 10] N (fun k vi vj wr => ∃ (i j : Nat) (dk : Array Sv), vi = .int .i64 i ∧ vj = .int .i64 j ∧ a < i ∧ i ≤ j + 1 ∧ j < b ∧ j + 1 - i ≤ k ∧ Hid (Fr W blk N dk wr ∧ partEqLoop lts a i j dk = partEqLoop lts a (a + 1) L (swp d a pivot)))
  case atStart => exact ⟨a + 1, L, _, by go_num, rfl, by omega, by omega, by omega, by omega, hide ⟨HF1.out, rfl⟩⟩
  case round =>
    obtain ⟨i, j, dk, rfl, rfl, hai, hij, hjb, hk, HO⟩ := hrel
    obtain ⟨G, hG, hS⟩ := names dk
    go_upto_block 2 with fail
    go_cut [9] (fun vi wx => ∃ i2 : Nat, vi = .int .i64 i2 ∧ i ≤ i2 ∧ i2 ≤ j + 1 ∧ Hid (Fr W blk N dk wx ∧ i2 = scanUp (fun x => !lts dk[a]! x) dk j i))
    case first =>
      go_wp2_with fail
      go_loopw [9] (fun vi w1 => ∃ i' : Nat, vi = .int .i64 i' ∧ i ≤ i' ∧ i' ≤ j + 1 ∧ Hid (Fr W blk N dk w1 ∧ scanUp (fun x => !lts dk[a]! x) dk j i' = scanUp (fun x => !lts dk[a]! x) dk j i)) (fun vi _ => j + 1 - (intOf vi).toNat)
      case atStart => exact ⟨i, rfl, Nat.le_refl _, hij, hide ⟨HO.out.1, rfl⟩⟩
      case round =>
        obtain ⟨i', rfl, hii, hij', HP⟩ := hrel
        by_cases hle : i' ≤ j
        · have c1 := HP.out.1.cell hG (i := a) (by omega)
          have c2 := HP.out.1.cell hG (i := i') (by omega)
          have i3 : (i' : Int) < N := by omega
          go_wp2_with fail
          go_quiet (first | (go_at_call 62; refine Calls.quiet_of_same (less_f _ _ (hS _) (hS _) _)))
          go_wp2
          · have ht : (!ltI (G a) (G i')) = true := by assumption
            go_roundw
            case rel => exact ⟨i' + 1, by go_num, by omega, by omega, hide ⟨HP.out.1.drewN _, (scanUp_go (fun x => !lts dk[a]! x) dk j i' hle (by rw [lt_of_G hG rfl]; exact ht)).symm.trans HP.out.2⟩⟩
            case measure => simp [intOf]; omega
          · have ht : (!ltI (G a) (G i')) = false := by assumption
            go_meet
            case rel => exact ⟨i', rfl, hii, hij', hide ⟨HP.out.1.drewN _, (scanUp_end (fun x => !lts dk[a]! x) dk j i' (Or.inr (by rw [lt_of_G hG rfl]; exact ht))).symm.trans HP.out.2⟩⟩
        · go_wp2_with fail
          go_quiet (first | (go_at_call 62; refine Calls.quiet_of_same (less_f _ _ (hS _) (hS _) _)))
          go_wp2
          go_meet
          case rel => exact ⟨i', rfl, hii, hij', hide ⟨HP.out.1.drewN _, (scanUp_end (fun x => !lts dk[a]! x) dk j i' (Or.inl hle)).symm.trans HP.out.2⟩⟩
    case rest =>
      obtain ⟨i2, rfl, hii, hi2j, HP⟩ := hcut
      go_upto_block 4 with fail
      go_cut [10] (fun vj wx => ∃ j2 : Nat, vj = .int .i64 j2 ∧ j2 ≤ j ∧ i2 ≤ j2 + 1 ∧ Hid (Fr W blk N dk wx ∧ j2 = scanDown (fun x => lts dk[a]! x) dk i2 j))
      case first =>
        go_wp2_with fail
        go_loopw [10] (fun vj w1 => ∃ j' : Nat, vj = .int .i64 j' ∧ j' ≤ j ∧ i2 ≤ j' + 1 ∧ Hid (Fr W blk N dk w1 ∧ scanDown (fun x => lts dk[a]! x) dk i2 j' = scanDown (fun x => lts dk[a]! x) dk i2 j)) (fun vj _ => (intOf vj).toNat)
        case atStart => exact ⟨j, rfl, Nat.le_refl _, hi2j, hide ⟨HP.out.1, rfl⟩⟩
        case round =>
          obtain ⟨j', rfl, hjj, hij', HQ⟩ := hrel
          by_cases hle : i2 ≤ j'
          · have c1 := HQ.out.1.cell hG (i := a) (by omega)
            have c2 := HQ.out.1.cell hG (i := j') (by omega)
            have i3 : (j' : Int) < N := by omega
            go_wp2_with fail
            go_quiet (first | (go_at_call 62; refine Calls.quiet_of_same (less_f _ _ (hS _) (hS _) _)))
            go_wp2
            · have ht : ltI (G a) (G j') = true := by assumption
              go_roundw
              case rel => exact ⟨j' - 1, by congr 1; omega, by omega, by omega, hide ⟨HQ.out.1.drewN _, (scanDown_go (fun x => lts dk[a]! x) dk i2 j' hle (by omega) (by rw [lt_of_G hG rfl]; exact ht)).symm.trans HQ.out.2⟩⟩
              case measure => simp [intOf]; omega
            · have ht : ltI (G a) (G j') = false := by assumption
              go_meet
              case rel => exact ⟨j', rfl, hjj, hij', hide ⟨HQ.out.1.drewN _, (scanDown_end (fun x => lts dk[a]! x) dk i2 j' (Or.inr (by rw [lt_of_G hG rfl]; exact ht))).symm.trans HQ.out.2⟩⟩
          · go_wp2_with fail
            go_quiet (first | (go_at_call 62; refine Calls.quiet_of_same (less_f _ _ (hS _) (hS _) _)))
            go_wp2
            go_meet
            case rel => exact ⟨j', rfl, hjj, hij', hide ⟨HQ.out.1.drewN _, (scanDown_end (fun x => lts dk[a]! x) dk i2 j' (Or.inl hle)).symm.trans HQ.out.2⟩⟩
      case rest =>
        obtain ⟨j2, rfl, hjj, hij2, HQ⟩ := hcut
        by_cases hle : j2 < i2
        · go_wp2_with fail
          go_ret
          have e := partEq_break lts a i j dk HP.out.2 HQ.out.2 hle
          unfold Sort.partitionEqual
          rw [show b - 1 = L by omega, ← HO.out.2, e]
          exact ⟨rfl, HQ.out.1⟩
        · have hlt3 := scans_lt lts a i j dk (by omega) HP.out.2 HQ.out.2 (by omega)
          have c1 := HQ.out.1.cell hG (i := i2) (by omega)
          have c2 := HQ.out.1.cell hG (i := j2) (by omega)
          have f1 := HQ.out.1.frozen (i := i2) (by omega)
          have f2 := HQ.out.1.frozen (i := j2) (by omega)
          have i3 : (i2 : Int) < N := by omega
          have i4 : (j2 : Int) < N := by omega
          obtain ⟨v3, c3⟩ := cell?_setCell_some (p := ⟨blk, i2, none⟩) (x := .float .f64 (F (G j2))) c2
          go_wp2_with fail
          go_region
          go_wp2_with fail
          go_roundg (j2 - 1 + 1 - (i2 + 1))
          case measure => omega
          case rel =>
            refine ⟨i2 + 1, j2 - 1, swp dk i2 j2, by go_num, by congr 1; omega, by omega, by omega, by omega, by omega, hide ⟨HQ.out.1.swapD hG i2 j2, ?_⟩⟩
            rw [← HO.out.2]
            exact (partEq_go lts a i j dk HP.out.2 HQ.out.2 (by omega)).symm
end Go.Proofs.Ybulkdzjs.A

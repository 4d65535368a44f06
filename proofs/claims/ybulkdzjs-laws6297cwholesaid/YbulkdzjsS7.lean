/- The library's sort at float64: pdqsort, slices.Sort. -/
import Derived.Test.YbulkdzjsS6
import Derived.Sort.LotD3
namespace Go.Proofs.Ybulkdzjs.A
open Go.RowKit Flt Go.Sort

/-- Behind the round's start: what is left to be sorted is [a', b') of dk; whatever sorted permutation of it comes, the whole is sorted. -/
def Todo (a b : Nat) (d : Array Sv) (a' b' : Nat) (dk : Array Sv) : Prop :=
  Sort.Below lts a' b' dk ∧ ∀ R, PermIn a' b' dk R → SortedIn lts a' b' R → PermIn a b d R ∧ SortedIn lts a b R
section
variable {a b a' b' : Nat} {d dk d1 : Array Sv}
theorem Todo.perm (h : Todo a b d a' b' dk) (hb : b' ≤ dk.size) (hp : PermIn a' b' dk d1) : Todo a b d a' b' d1 :=
  ⟨h.1.perm hb hp, fun R h1 h2 => h.2 R (permIn_trans _ _ _ _ _ hp h1) h2⟩
end

/-- What is said of slices.pdqsortOrdered at float64, for ranges shorter than T: a sorted permutation of the range. -/
def Pdq (blk N cap : Nat) (V : World) (T : Nat) : Prop := ∀ (a b limit : Nat) (d : Array Sv) (w : World), b - a < T → Fr V blk N d w → a ≤ b → b ≤ N → limit ≤ 1000000 → Sort.Below lts a b d →
    Calls Yba.prog 54 #[.slice (some ⟨blk, 0, none⟩) N cap, .int .i64 a, .int .i64 b, .int .i64 limit] w fun e w' => ∃ d' : Array Sv, e = .returned (.tuple #[]) ∧ PermIn a b d d' ∧ SortedIn lts a b d' ∧ Fr V blk N d' w'

set_option maxRecDepth 100000 in
set_option maxHeartbeats 8000000 in
theorem pdq_step (blk N cap : Nat) (V : World) (hbl : blk < V.heap.size) (hN : N ≤ 65536) (T : Nat) (ih : Hid (Pdq blk N cap V T)) (a b limit : Nat) (d : Array Sv) (w : World) (hT : b - a < T + 1) (hF : Fr V blk N d w) (hab : a ≤ b) (hb : b ≤ N) (hlim : limit ≤ 1000000) (hB : Sort.Below lts a b d) :
    Calls Yba.prog 54 #[.slice (some ⟨blk, 0, none⟩) N cap, .int .i64 a, .int .i64 b, .int .i64 limit] w fun e w' => ∃ d' : Array Sv, e = .returned (.tuple #[]) ∧ PermIn a b d d' ∧ SortedIn lts a b d' ∧ Fr V blk N d' w' := by
  have HF := hide hF
  have HB := hide hB
  clear hF hB
  go_enter Yba.func54, Yba.ntmps54
  go_wp2_with fail
  go_loopg [1, 2, 3, 8, 9] (b - a) (fun k va vb vl vwb vwp wr => ∃ (a' b' l' : Nat) (wb wp : Bool) (dk : Array Sv), va = .int .i64 a' ∧ vb = .int .i64 b' ∧ vl = .int .i64 l' ∧ vwb = .bool wb ∧ vwp = .bool wp ∧ a' ≤ b' ∧ b' ≤ b ∧ l' ≤ limit ∧ b' - a' ≤ k ∧ k ≤ b - a ∧ Hid (Fr V blk N dk wr) ∧ Hid (Todo a b d a' b' dk))
  case atStart => exact ⟨a, b, limit, true, true, d, rfl, rfl, rfl, rfl, rfl, hab, Nat.le_refl _, Nat.le_refl _, Nat.le_refl _, Nat.le_refl _, HF, hide ⟨HB.out, fun R h1 h2 => ⟨h1, h2⟩⟩⟩
  case round =>
    obtain ⟨a', b', l', wb, wp, dk, rfl, rfl, rfl, rfl, rfl, hab', hbb, hll, hk, hkk, HO, HT⟩ := hrel
    obtain ⟨M, hM⟩ : ∃ M : Nat, (b' : Int) - a' = M := ⟨b' - a', by omega⟩
    by_cases h12 : M ≤ 12
    · have h12' : (M : Int) ≤ 12 := by omega
      go_wp2_with fail
      refine (insertionSort_f blk N cap a' b' dk V _ HO.out hab' (by omega) hN).mono ?_
      rintro e w1 ⟨rfl, H1⟩
      have H1 := hide H1
      go_wp2_with fail
      (try simp only [Exit.inBlock, Exit.then]); refine bodyPost_ret (results_none rfl _ _ _) rfl ?_
      have hi := insertionSort_holds swo dk a' b' hab' (by rw [HO.out.1]; omega)
      obtain ⟨r1, r2⟩ := HT.out.2 _ hi.1 hi.2
      exact ⟨_, rfl, r1, r2, H1.out⟩
    · have h12' : ¬ (M : Int) ≤ 12 := by omega
      by_cases hl0 : l' = 0
      · subst hl0
        go_wp2_with fail
        refine (heapSort_f blk N cap a' b' dk V _ HO.out (by omega) (by omega) hN).mono ?_
        rintro e w1 ⟨rfl, H1⟩
        have H1 := hide H1
        go_wp2_with fail
        (try simp only [Exit.inBlock, Exit.then]); refine bodyPost_ret (results_none rfl _ _ _) rfl ?_
        have hi := heapSort_holds swo dk a' b' hab' (by rw [HO.out.1]; omega)
        obtain ⟨r1, r2⟩ := HT.out.2 _ hi.1 hi.2
        exact ⟨_, rfl, r1, r2, H1.out⟩
      · have hl1 : ((l' : Int) == 0) = false := by simp; omega
        go_upto_if 35 with fail
        go_cut [3] (fun vl wx => ∃ (l2 : Nat) (d1 : Array Sv), vl = .int .i64 l2 ∧ l2 ≤ limit ∧ Hid (Fr V blk N d1 wx) ∧ Hid (Todo a b d a' b' d1))
        case first =>
          go_wp2_with fail
          · refine (breakPatterns_f blk N cap a' b' dk V _ HO.out (Nat.lt_of_lt_of_le hbl HO.out.2.2.size) (by omega) (by omega) hN).mono ?_
            rintro e w1 ⟨d1, rfl, H1, H2⟩
            have H1 := hide H1
            have H2 := hide H2
            go_wp2_with fail
            go_meet
            case rel => exact ⟨l' - 1, d1, by congr 1; omega, by omega, H2, hide (HT.out.perm (by rw [HO.out.1]; omega) H1.out)⟩
          · go_meet
            case rel => exact ⟨l', dk, rfl, hll, HO, HT⟩
        case rest =>
          clear HO HT hl1 hll hl0
          obtain ⟨l2, d1, rfl, hll, HO, HT⟩ := hcut
          go_wp2_with fail
          refine (choosePivot_f blk N cap a' b' d1 V _ HO.out (Nat.lt_of_lt_of_le hbl HO.out.2.2.size) (by omega) (by omega) hN).mono ?_
          rintro e w1 ⟨p, h, rfl, hap, hpb, hh, H1⟩
          have H1 := hide H1
          clear HO
          go_upto_if 50 with fail
          go_cut [11, 12] (fun vp vh wx => ∃ (p2 h2 : Nat) (d2 : Array Sv), vp = .int .i64 p2 ∧ vh = .int .i64 h2 ∧ h2 ≤ 2 ∧ a' ≤ p2 ∧ p2 < b' ∧ Hid (Fr V blk N d2 wx) ∧ Hid (Todo a b d a' b' d2))
          case first =>
            go_wp2_with fail
            · refine (reverseRange_f blk N cap a' b' d1 V _ H1.out (by omega) (by omega) hN).mono ?_
              rintro e w2 ⟨rfl, H2⟩
              have H2 := hide H2
              go_wp2_with fail
              go_meet
              case rel => exact ⟨b' - 1 - (p - a'), 1, _, by congr 1; omega, rfl, by omega, by omega, by omega, H2, hide (HT.out.perm (by rw [H1.out.1]; omega) (reverseRange_holds d1 a' b' (by omega) (by rw [H1.out.1]; omega)))⟩
            · go_meet
              case rel => exact ⟨p, h, d1, rfl, rfl, hh, hap, hpb, H1, HT⟩
          case rest =>
            clear HT H1 hap hpb hh
            obtain ⟨p, h, d2, rfl, rfl, hh, hap, hpb, HO, HT⟩ := hcut
            go_upto_region 15 with fail
            go_cut [68] (fun v wx => ∃ bb : Bool, v = .bool bb ∧ Hid (Fr V blk N d2 wx))
            case first =>
              cases wb <;> cases wp <;> go_wp2_with fail
              all_goals go_meet
              all_goals exact ⟨_, rfl, HO⟩
            case rest =>
              clear HO
              obtain ⟨bb, rfl, HO⟩ := hcut
              obtain ⟨we, rfl⟩ : ∃ we : World, we = wc := ⟨_, rfl⟩
              go_upto_if 68 with fail
              go_cut [] (fun wx => ∃ d3 : Array Sv, Hid (Fr V blk N d3 wx) ∧ Hid (Todo a b d a' b' d3))
              case first =>
                cases bb
                · go_wp2_with fail
                  go_meet
                  case rel => exact ⟨d2, HO, HT⟩
                · have hP := hide (partialInsertionSort_holds swo d2 a' b' (by omega) (by rw [HO.out.1]; omega) HT.out.1)
                  obtain ⟨r, hr⟩ : ∃ r : Array Sv × Bool, Hid (r = Sort.partialInsertionSort lts d2 a' b') := ⟨_, hide rfl⟩
                  rw [← hr.out] at hP
                  go_wp2_with fail
                  refine (partialInsertionSort_f blk N cap a' b' d2 V _ HO.out (by omega) (by omega) hN).mono ?_
                  rw [← hr.out]
                  obtain ⟨r1, r2⟩ := r
                  rintro e w2 ⟨rfl, H2⟩
                  have H2 := hide H2
                  cases r2
                  · go_wp2_with fail
                    go_meet
                    case rel => exact ⟨r1, H2, hide (HT.out.perm (by rw [HO.out.1]; omega) hP.out.1)⟩
                  · go_wp2_with fail
                    (try simp only [Exit.inBlock, Exit.then]); refine bodyPost_ret (results_none rfl _ _ _) rfl ?_
                    obtain ⟨q1, q2⟩ := HT.out.2 _ hP.out.1 (hP.out.2 (by first | rfl | trivial))
                    exact ⟨_, rfl, q1, q2, H2.out⟩
              case rest =>
                clear HO HT
                obtain ⟨d3, HO, HT⟩ := hcut
                obtain ⟨G, hG, hS⟩ := names d3
                obtain ⟨r, hr⟩ : ∃ r : Nat × Bool × Array Sv, Hid (r = Sort.partition lts d3 a' b' p) := ⟨_, hide rfl⟩
                obtain ⟨mid, ap, d4⟩ := r
                have i1 : (p : Int) < N := by omega
                have c2 := HO.out.cell hG (i := p) (by omega)
                by_cases ha0 : 0 < a'
                · have ha0' : (0 : Int) < a' := by omega
                  obtain ⟨a1, ha1⟩ : ∃ x : Nat, (a' : Int) - 1 = x := ⟨a' - 1, by omega⟩
                  have Ha1 := hide (show a' - 1 = a1 by omega)
                  have i2 : (a1 : Int) < N := by omega
                  have c1 := HO.out.cell hG (i := a1) (by omega)
                  go_wp2_with fail
                  go_quiet (first | (go_at_call 62; refine Calls.quiet_of_same (less_f _ _ (hS _) (hS _) _)))
                  have HX := hide (HO.out.drewN nq)
                  generalize wc.drewN nq = wx at HX ⊢
                  go_wp2_with fail
                  · have hl : ltI (G a1) (G p) = false := by
                      have : (!ltI (G a1) (G p)) = true := by assumption
                      simpa using this
                    obtain ⟨r, hr⟩ : ∃ r : Nat × Array Sv, Hid (r = Sort.partitionEqual lts d3 a' b' p) := ⟨_, hide rfl⟩
                    obtain ⟨mid, d4⟩ := r
                    obtain ⟨q1, q2, q3, q4, q5⟩ := round_eq swo (partitionEqual_holds lts) ha0 hap hpb (by rw [HO.out.1]; omega) HT.out.1 (by rw [Ha1.out]; exact lt_of_G hG hl) hr.out.symm
                    have Q4 := hide q4
                    have Q5 := hide q5
                    clear q3 q4 q5
                    refine (partitionEqual_f blk N cap a' b' p d3 V _ HX.out hap hpb (by omega) hN).mono ?_
                    rw [← hr.out]
                    rintro e w2 ⟨rfl, H2⟩
                    have H2 := hide H2
                    go_wp2_with fail
                    go_roundg (b' - mid)
                    case measure => omega
                    case rel => exact ⟨mid, b', l2, wb, wp, d4, rfl, rfl, rfl, rfl, rfl, q2, hbb, hll, Nat.le_refl _, by omega, H2, hide ⟨Q4.out, fun R h1 h2 => HT.out.2 R (Q5.out R h1 h2).1 (Q5.out R h1 h2).2⟩⟩
                  · clear c1 c2 hG hS
                    refine (partition_f blk N cap a' b' p d3 V _ HX.out hap hpb (by omega) hN).mono ?_
                    rw [← hr.out]
                    rintro e w2 ⟨rfl, H2⟩
                    have H2 := hide H2
                    obtain ⟨q1, q2, q3, q4, q5, q6, q7⟩ := round_part swo (partition_holds lts) hap hpb (by rw [HO.out.1]; omega) HT.out.1 hr.out.symm
                    have Q4 := hide q4
                    have Q5 := hide q5
                    have Q6 := hide q6
                    have Q7 := hide q7
                    clear q3 q4 q5 q6 q7
                    obtain ⟨LL, hLL⟩ : ∃ x : Nat, (mid : Int) - a' = x := ⟨mid - a', by omega⟩
                    obtain ⟨RL, hRL⟩ : ∃ x : Nat, (b' : Int) - mid = x := ⟨b' - mid, by omega⟩
                    obtain ⟨m1, hm1⟩ : ∃ x : Nat, (mid : Int) + 1 = x := ⟨mid + 1, by omega⟩
                    have Hm1 := hide (show m1 = mid + 1 by omega)
                    by_cases hlr : LL < RL
                    · have hlr' : (LL : Int) < RL := by omega
                      go_wp2_with fail
                      refine (ih.out a' mid l2 d4 _ (by omega) H2.out q1 (by omega) (by omega) Q4.out).mono ?_
                      rintro e w3 ⟨d5, rfl, hp5, hs5, H3⟩
                      have H3 := hide H3
                      have HR := hide (Q6.out d5 hp5 hs5)
                      clear hp5 hs5
                      go_wp2_with fail
                      go_roundg (b' - (mid + 1))
                      case measure => omega
                      case rel => exact ⟨mid + 1, b', l2, _, _, d5, by congr 1; omega, rfl, rfl, rfl, rfl, by omega, hbb, hll, Nat.le_refl _, by omega, H3, hide ⟨HR.out.1, fun R h1 h2 => HT.out.2 R (HR.out.2 R h1 h2).1 (HR.out.2 R h1 h2).2⟩⟩
                    · have hlr' : ¬ (LL : Int) < RL := by omega
                      go_wp2_with fail
                      refine (ih.out m1 b' l2 d4 _ (by omega) H2.out (by omega) (by omega) (by omega) (by rw [Hm1.out]; exact Q5.out)).mono ?_
                      rintro e w3 ⟨d5, rfl, hp5, hs5, H3⟩
                      have H3 := hide H3
                      rw [Hm1.out] at hp5 hs5
                      have HR := hide (Q7.out d5 hp5 hs5)
                      clear hp5 hs5
                      go_wp2_with fail
                      go_roundg (mid - a')
                      case measure => omega
                      case rel => exact ⟨a', mid, l2, _, _, d5, rfl, rfl, rfl, rfl, rfl, q1, by omega, hll, Nat.le_refl _, by omega, H3, hide ⟨HR.out.1, fun R h1 h2 => HT.out.2 R (HR.out.2 R h1 h2).1 (HR.out.2 R h1 h2).2⟩⟩
                · have ha0' : ¬ (0 : Int) < a' := by omega
                  go_wp2_with fail
                  go_quiet (first | (go_at_call 62; refine Calls.quiet_of_same (less_f _ _ (hS _) (hS _) _)))
                  have HX := hide (HO.out.drewN nq)
                  generalize wc.drewN nq = wx at HX ⊢
                  clear c2 hG hS
                  go_wp2_with fail
                  refine (partition_f blk N cap a' b' p d3 V _ HX.out hap hpb (by omega) hN).mono ?_
                  rw [← hr.out]
                  rintro e w2 ⟨rfl, H2⟩
                  have H2 := hide H2
                  obtain ⟨q1, q2, q3, q4, q5, q6, q7⟩ := round_part swo (partition_holds lts) hap hpb (by rw [HO.out.1]; omega) HT.out.1 hr.out.symm
                  have Q4 := hide q4
                  have Q5 := hide q5
                  have Q6 := hide q6
                  have Q7 := hide q7
                  clear q3 q4 q5 q6 q7
                  obtain ⟨LL, hLL⟩ : ∃ x : Nat, (mid : Int) - a' = x := ⟨mid - a', by omega⟩
                  obtain ⟨RL, hRL⟩ : ∃ x : Nat, (b' : Int) - mid = x := ⟨b' - mid, by omega⟩
                  obtain ⟨m1, hm1⟩ : ∃ x : Nat, (mid : Int) + 1 = x := ⟨mid + 1, by omega⟩
                  have Hm1 := hide (show m1 = mid + 1 by omega)
                  by_cases hlr : LL < RL
                  · have hlr' : (LL : Int) < RL := by omega
                    go_wp2_with fail
                    refine (ih.out a' mid l2 d4 _ (by omega) H2.out q1 (by omega) (by omega) Q4.out).mono ?_
                    rintro e w3 ⟨d5, rfl, hp5, hs5, H3⟩
                    have H3 := hide H3
                    have HR := hide (Q6.out d5 hp5 hs5)
                    clear hp5 hs5
                    go_wp2_with fail
                    go_roundg (b' - (mid + 1))
                    case measure => omega
                    case rel => exact ⟨mid + 1, b', l2, _, _, d5, by congr 1; omega, rfl, rfl, rfl, rfl, by omega, hbb, hll, Nat.le_refl _, by omega, H3, hide ⟨HR.out.1, fun R h1 h2 => HT.out.2 R (HR.out.2 R h1 h2).1 (HR.out.2 R h1 h2).2⟩⟩
                  · have hlr' : ¬ (LL : Int) < RL := by omega
                    go_wp2_with fail
                    refine (ih.out m1 b' l2 d4 _ (by omega) H2.out (by omega) (by omega) (by omega) (by rw [Hm1.out]; exact Q5.out)).mono ?_
                    rintro e w3 ⟨d5, rfl, hp5, hs5, H3⟩
                    have H3 := hide H3
                    rw [Hm1.out] at hp5 hs5
                    have HR := hide (Q7.out d5 hp5 hs5)
                    clear hp5 hs5
                    go_wp2_with fail
                    go_roundg (mid - a')
                    case measure => omega
                    case rel => exact ⟨a', mid, l2, _, _, d5, rfl, rfl, rfl, rfl, rfl, q1, by omega, hll, Nat.le_refl _, by omega, H3, hide ⟨HR.out.1, fun R h1 h2 => HT.out.2 R (HR.out.2 R h1 h2).1 (HR.out.2 R h1 h2).2⟩⟩

theorem pdqsort_f (blk N cap : Nat) (V : World) (hbl : blk < V.heap.size) (hN : N ≤ 65536) (T : Nat) : Pdq blk N cap V T := by
  induction T with
  | zero => intro a b l d w h; exact absurd h (by omega)
  | succ T ih => exact pdq_step blk N cap V hbl hN T (hide ih)

theorem bitLen_small (n : Nat) (hn : n ≤ 65536) : bitsLen n ≤ 17 := (bitsLen_le_iff n 17).2 (by omega)

set_option maxRecDepth 100000 in
/-- slices.Sort at []float64, the elements being small whole numbers: a sorted permutation; nothing but the row turns. -/
theorem sort_f (blk N cap : Nat) (d : Array Sv) (w : World) (hbl : blk < w.heap.size) (hN : N ≤ 65536) (hF : Fr w blk N d w) :
    Calls Yba.prog 44 #[.slice (some ⟨blk, 0, none⟩) N cap] w fun e w' => ∃ d' : Array Sv, e = .returned (.tuple #[]) ∧ PermIn 0 N d d' ∧ SortedIn lts 0 N d' ∧ Fr w blk N d' w' := by
  have hLen : ∀ w, Calls Yba.prog 23 #[.int .u64 (N : Int)] w fun e w' => e = .returned (.int .i64 (bitsLen N : Nat)) ∧ w' = w := fun w => by
    have h := Yba.bits_Len (N : Int) w (by omega) (by omega)
    rwa [Int.toNat_natCast, bitLen_eq _ (by omega)] at h
  have hl := bitLen_small N hN
  obtain ⟨l, hl'⟩ : ∃ l : Nat, l = bitsLen N := ⟨_, rfl⟩
  rw [← hl'] at hl
  rw [← hl'] at hLen
  have HF := hide hF
  clear hF hl'
  go_enter Yba.func44, Yba.ntmps44
  go_wp2_with fail
  refine (hLen _).mono ?_
  rintro e w' ⟨rfl, rfl⟩
  go_wp2_with fail
  refine (pdqsort_f blk N cap w' hbl hN (N + 1) 0 N l d w' (by omega) HF.out (by omega) (Nat.le_refl _) (by omega) (Or.inl rfl)).mono ?_
  rintro e w1 ⟨d', rfl, h1, h2, h3⟩
  go_wp2_with fail
  go_end0
  exact ⟨d', rfl, h1, h2, h3⟩

set_option maxRecDepth 100000 in
/-- .. and of an empty slice: nothing turns. -/
theorem sort_none (p : Option Addr) (cap : Nat) (w : World) : Calls Yba.prog 44 #[.slice p 0 cap] w fun e w' => e = .returned (.tuple #[]) ∧ w' = w := by
  have hLen : ∀ w, Calls Yba.prog 23 #[.int .u64 0] w fun e w' => e = .returned (.int .i64 (bitsLen 0 : Nat)) ∧ w' = w := fun w => by
    have h := Yba.bits_Len (0 : Int) w (by omega) (by omega)
    rwa [show (0 : Int).toNat = 0 from rfl, bitLen_eq _ (by omega)] at h
  have h56 : ∀ w, Calls Yba.prog 56 #[.slice p 0 cap, .int .i64 0, .int .i64 0] w fun e w' => e = .returned (.tuple #[]) ∧ w' = w := fun w => by
    go_enter Yba.func56, Yba.ntmps56
    go_wp2_with fail
    go_loopw [6] (fun vi wr => vi = .int .i64 1 ∧ wr = w) (fun _ _ => 0)
    case atStart => exact ⟨rfl, rfl⟩
    case round =>
      obtain ⟨rfl, rfl⟩ := hrel
      go_wp2_with fail
      go_end0
      exact ⟨rfl, rfl⟩
  have h54 : ∀ (l : Int) w, Calls Yba.prog 54 #[.slice p 0 cap, .int .i64 0, .int .i64 0, .int .i64 l] w fun e w' => e = .returned (.tuple #[]) ∧ w' = w := fun l w => by
    go_enter Yba.func54, Yba.ntmps54
    go_wp2_with fail
    go_loopw [1, 2, 3, 8, 9] (fun va vb _ _ _ wr => va = .int .i64 0 ∧ vb = .int .i64 0 ∧ wr = w) (fun _ _ _ _ _ _ => 0)
    case atStart => exact ⟨rfl, rfl, rfl⟩
    case round =>
      obtain ⟨rfl, rfl, rfl⟩ := hrel
      go_wp2_with fail
      refine (h56 _).mono ?_
      rintro e w' ⟨rfl, rfl⟩
      go_wp2_with fail
      (try simp only [Exit.inBlock, Exit.then]); refine bodyPost_ret (results_none rfl _ _ _) rfl ?_
      exact ⟨rfl, rfl⟩
  go_enter Yba.func44, Yba.ntmps44
  go_wp2_with fail
  refine (hLen _).mono ?_
  rintro e w' ⟨rfl, rfl⟩
  go_wp2_with fail
  refine (h54 _ _).mono ?_
  rintro e w' ⟨rfl, rfl⟩
  go_wp2_with fail
  go_end0
  exact ⟨rfl, rfl⟩
end Go.Proofs.Ybulkdzjs.A

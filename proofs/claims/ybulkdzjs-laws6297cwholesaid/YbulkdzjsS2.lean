/- The library's sort at float64: siftDown, heapSort, reverseRange. -/
import Derived.Test.YbulkdzjsS1
import Derived.Sort.WalkB3
import Derived.Sort.LotB
namespace Go.Proofs.Ybulkdzjs.A
open Go.RowKit Flt Go.Sort
attribute [local go_sem] run_store_flt

section
variable {W w : World} {blk N : Nat} {d : Array Sv}
theorem Fr.cell (h : Fr W blk N d w) {G : Nat → Int} (hG : Hid (∀ t, G t = (d[t]!).1)) {i : Nat} (hi : i < N) : w.cell? ⟨blk, i, none⟩ = some (.float .f64 (F (G i))) := by rw [hG.out]; exact (h.2.1 i hi).1
theorem Fr.frozen (h : Fr W blk N d w) {i : Nat} (hi : i < N) : w.frozen? ⟨blk, i, none⟩ = false := (h.2.1 i hi).2
theorem Fr.swapG (h : Fr W blk N d w) {G : Nat → Int} (hG : Hid (∀ t, G t = (d[t]!).1)) (q i j : Nat) : Fr W blk N (swp d i j) (((w.drewN q).setCell ⟨blk, i, none⟩ (.float .f64 (F (G j)))).setCell ⟨blk, j, none⟩ (.float .f64 (F (G i)))) := by
  rw [hG.out, hG.out]; exact (h.drewN q).swap i j
theorem names (d : Array Sv) : ∃ G : Nat → Int, Hid (∀ t, G t = (d[t]!).1) ∧ ∀ t, Sm (G t) := ⟨fun t => (d[t]!).1, fun _ => rfl, fun t => (d[t]!).2⟩
theorem wrapN (n : Nat) (h : n ≤ 1000000) : IntKind.i64.wrap (n : Int) = n := by rw [IntKind.wrap_i64]; omega
theorem lt_of_G {G : Nat → Int} (hG : Hid (∀ t, G t = (d[t]!).1)) {i j : Nat} {r : Bool} (h : ltI (G i) (G j) = r) : lts d[i]! d[j]! = r := by unfold lts; rw [← hG.out, ← hG.out]; exact h
end

section
variable {hi first root c p p' r : Nat} {d : Array Sv} {G : Nat → Int}
theorem sd_r_stop (hG : Hid (∀ t, G t = (d[t]!).1)) (h1 : 2 * root + 2 < hi) (hp : p = first + (2 * root + 1)) (hp' : p' = first + (2 * root + 2)) (hr : r = first + root) (hl : ltI (G p) (G p') = true) (hL : ltI (G r) (G p') = false) : Sort.siftDown lts hi first root d = d := by
  subst hp hp' hr
  exact sd_right_stop lts d h1 (lt_of_G hG hl) (lt_of_G hG hL)
theorem sd_r_go (hG : Hid (∀ t, G t = (d[t]!).1)) (h1 : 2 * root + 2 < hi) (hp : p = first + (2 * root + 1)) (hp' : p' = first + (2 * root + 2)) (hr : r = first + root) (hc : c = 2 * root + 2) (hl : ltI (G p) (G p') = true) (hL : ltI (G r) (G p') = true) : Sort.siftDown lts hi first root d = Sort.siftDown lts hi first c (swp d r p') := by
  subst hp hp' hr hc
  exact sd_right_go lts d h1 (lt_of_G hG hl) (lt_of_G hG hL)
theorem sd_l_stop (hG : Hid (∀ t, G t = (d[t]!).1)) (h1 : 2 * root + 1 < hi) (hp : p = first + (2 * root + 1)) (hr : r = first + root) (hl : 2 * root + 2 < hi → ∃ p', p' = first + (2 * root + 2) ∧ ltI (G p) (G p') = false) (hL : ltI (G r) (G p) = false) : Sort.siftDown lts hi first root d = d := by
  subst hp hr
  exact sd_left_stop lts d h1 (fun h => by obtain ⟨p', rfl, e⟩ := hl h; exact lt_of_G hG e) (lt_of_G hG hL)
theorem sd_l_go (hG : Hid (∀ t, G t = (d[t]!).1)) (h1 : 2 * root + 1 < hi) (hp : p = first + (2 * root + 1)) (hr : r = first + root) (hc : c = 2 * root + 1) (hl : 2 * root + 2 < hi → ∃ p', p' = first + (2 * root + 2) ∧ ltI (G p) (G p') = false) (hL : ltI (G r) (G p) = true) : Sort.siftDown lts hi first root d = Sort.siftDown lts hi first c (swp d r p) := by
  subst hp hr hc
  exact sd_left_go lts d h1 (fun h => by obtain ⟨p', rfl, e⟩ := hl h; exact lt_of_G hG e) (lt_of_G hG hL)
end

set_option maxRecDepth 100000 in
set_option maxHeartbeats 4000000 in
/-- slices.siftDownOrdered at float64. -/
theorem siftDown_f (blk N cap lo hi first : Nat) (d : Array Sv) (W w : World) (hF : Fr W blk N d w) (hlo : lo ≤ hi) (hb : first + hi ≤ N) (hN : N ≤ 65536) :
    Calls Yba.prog 65 #[.slice (some ⟨blk, 0, none⟩) N cap, .int .i64 lo, .int .i64 hi, .int .i64 first] w fun e w' => e = .returned (.tuple #[]) ∧ Fr W blk N (Sort.siftDown lts hi first lo d) w' := by
  have HF : Hid (Fr W blk N d w) := hF
  clear hF
  go_enter Yba.func65, Yba.ntmps65
  go_wp2
  go_loopw [8] (fun vi wr => ∃ (root : Nat) (dk : Array Sv), vi = .int .i64 root ∧ root ≤ hi ∧ Hid (Fr W blk N dk wr ∧ Sort.siftDown lts hi first root dk = Sort.siftDown lts hi first lo d)) (fun vi _ => hi - (intOf vi).toNat)
  case atStart => exact ⟨lo, d, rfl, hlo, hide ⟨HF.out, rfl⟩⟩
  case round =>
    obtain ⟨root, dk, rfl, hrt, HO⟩ := hrel
    obtain ⟨G, hG, hS⟩ := names dk
    obtain ⟨c, hc⟩ : ∃ c : Nat, 2 * (root : Int) + 1 = c := ⟨2 * root + 1, by omega⟩
    obtain ⟨c', hc'⟩ : ∃ c' : Nat, (c : Int) + 1 = c' := ⟨c + 1, by omega⟩
    obtain ⟨p, hp⟩ : ∃ p : Nat, (first : Int) + c = p := ⟨first + c, by omega⟩
    obtain ⟨p', hp'⟩ : ∃ p' : Nat, (p : Int) + 1 = p' := ⟨p + 1, by omega⟩
    have hp2 : (first : Int) + c' = p' := by omega
    obtain ⟨r, hr⟩ : ∃ r : Nat, (first : Int) + root = r := ⟨first + root, by omega⟩
    have hcb : c ≤ 131073 := by omega
    by_cases h0 : hi ≤ c
    · go_wp2
      go_end0
      exact ⟨rfl, by rw [← HO.out.2, sd_end lts dk (by omega)]; exact HO.out.1⟩
    · have c1 := HO.out.1.cell hG (i := p) (by omega)
      have c2 := HO.out.1.cell hG (i := r) (by omega)
      have f1 := HO.out.1.frozen (i := p) (by omega)
      have f2 := HO.out.1.frozen (i := r) (by omega)
      have i1 : (p : Int) < N := by omega
      have i2 : (r : Int) < N := by omega
      have w1 := wrapN p (by omega)
      have w2 := wrapN r (by omega)
      by_cases h1 : c' < hi
      · have d1 := HO.out.1.cell hG (i := p') (by omega)
        have e1 := HO.out.1.frozen (i := p') (by omega)
        have i3 : (p' : Int) < N := by omega
        have w3 := wrapN p' (by omega)
        go_wp2
        go_quiet (first | (go_at_call 62; refine Calls.quiet_of_same (less_f _ _ (hS _) (hS _) _)))
        go_wp2
        · have hl : ltI (G p) (G p') = true := by assumption
          revert nq; intro nq1
          have HX : Hid (Fr W blk N dk (wr.drewN nq1)) := hide (HO.out.1.drewN nq1)
          have g1 : (wr.drewN nq1).cell? ⟨blk, p', none⟩ = some (.float .f64 (F (G p'))) := d1
          have g2 : (wr.drewN nq1).cell? ⟨blk, r, none⟩ = some (.float .f64 (F (G r))) := c2
          have k1 : (wr.drewN nq1).frozen? ⟨blk, p', none⟩ = false := e1
          have k2 : (wr.drewN nq1).frozen? ⟨blk, r, none⟩ = false := f2
          generalize wr.drewN nq1 = wx at HX g1 g2 k1 k2 ⊢
          go_quiet (first | (go_at_call 62; refine Calls.quiet_of_same (less_f _ _ (hS _) (hS _) _)))
          go_wp2
          · have hL : ltI (G r) (G p') = false := by
              have : (!ltI (G r) (G p')) = true := by assumption
              simpa using this
            (try simp only [Exit.inBlock, Exit.then]); refine bodyPost_ret (results_none rfl _ _ _) rfl ?_
            refine ⟨rfl, ?_⟩
            rw [← HO.out.2, sd_r_stop hG (by omega) (by omega) (by omega) (by omega) hl hL]
            exact HX.out.drewN _
          · have hL : ltI (G r) (G p') = true := by
              have : (!ltI (G r) (G p')) = false := by assumption
              simpa using this
            have c3 : ∀ q : Nat, ∃ v', ((wx.drewN q).setCell ⟨blk, r, none⟩ (.float .f64 (F (G p')))).cell? ⟨blk, p', none⟩ = some v' := fun q => cell?_setCell_some g1
            go_region
            all_goals go_wp2
            go_roundw
            case rel =>
              refine ⟨c', swp dk r p', by go_num, by omega, hide ⟨HX.out.swapG hG _ r p', ?_⟩⟩
              rw [← HO.out.2]
              exact (sd_r_go hG (by omega) (by omega) (by omega) (by omega) (by omega) hl hL).symm
            case measure => simp [intOf]; omega
        · have hl : ltI (G p) (G p') = false := by assumption
          revert nq; intro nq1
          have HX : Hid (Fr W blk N dk (wr.drewN nq1)) := hide (HO.out.1.drewN nq1)
          have g1 : (wr.drewN nq1).cell? ⟨blk, p, none⟩ = some (.float .f64 (F (G p))) := c1
          have g2 : (wr.drewN nq1).cell? ⟨blk, r, none⟩ = some (.float .f64 (F (G r))) := c2
          have k1 : (wr.drewN nq1).frozen? ⟨blk, p, none⟩ = false := f1
          have k2 : (wr.drewN nq1).frozen? ⟨blk, r, none⟩ = false := f2
          generalize wr.drewN nq1 = wx at HX g1 g2 k1 k2 ⊢
          go_quiet (first | (go_at_call 62; refine Calls.quiet_of_same (less_f _ _ (hS _) (hS _) _)))
          go_wp2
          · have hL : ltI (G r) (G p) = false := by
              have : (!ltI (G r) (G p)) = true := by assumption
              simpa using this
            (try simp only [Exit.inBlock, Exit.then]); refine bodyPost_ret (results_none rfl _ _ _) rfl ?_
            refine ⟨rfl, ?_⟩
            rw [← HO.out.2, sd_l_stop hG (by omega) (by omega) (by omega) (fun _ => ⟨p', by omega, hl⟩) hL]
            exact HX.out.drewN _
          · have hL : ltI (G r) (G p) = true := by
              have : (!ltI (G r) (G p)) = false := by assumption
              simpa using this
            have c3 : ∀ q : Nat, ∃ v', ((wx.drewN q).setCell ⟨blk, r, none⟩ (.float .f64 (F (G p)))).cell? ⟨blk, p, none⟩ = some v' := fun q => cell?_setCell_some g1
            go_region
            all_goals go_wp2
            go_roundw
            case rel =>
              refine ⟨c, swp dk r p, by go_num, by omega, hide ⟨HX.out.swapG hG _ r p, ?_⟩⟩
              rw [← HO.out.2]
              exact (sd_l_go hG (by omega) (by omega) (by omega) (by omega) (fun _ => ⟨p', by omega, hl⟩) hL).symm
            case measure => simp [intOf]; omega
      · go_wp2
        go_quiet (first | (go_at_call 62; refine Calls.quiet_of_same (less_f _ _ (hS _) (hS _) _)))
        go_wp2
        revert nq; intro nq1
        have HX : Hid (Fr W blk N dk (wr.drewN nq1)) := hide (HO.out.1.drewN nq1)
        have g1 : (wr.drewN nq1).cell? ⟨blk, p, none⟩ = some (.float .f64 (F (G p))) := c1
        have g2 : (wr.drewN nq1).cell? ⟨blk, r, none⟩ = some (.float .f64 (F (G r))) := c2
        have k1 : (wr.drewN nq1).frozen? ⟨blk, p, none⟩ = false := f1
        have k2 : (wr.drewN nq1).frozen? ⟨blk, r, none⟩ = false := f2
        generalize wr.drewN nq1 = wx at HX g1 g2 k1 k2 ⊢
        go_quiet (first | (go_at_call 62; refine Calls.quiet_of_same (less_f _ _ (hS _) (hS _) _)))
        go_wp2
        · have hL : ltI (G r) (G p) = false := by
            have : (!ltI (G r) (G p)) = true := by assumption
            simpa using this
          (try simp only [Exit.inBlock, Exit.then]); refine bodyPost_ret (results_none rfl _ _ _) rfl ?_
          refine ⟨rfl, ?_⟩
          rw [← HO.out.2, sd_l_stop hG (by omega) (by omega) (by omega) (fun h => absurd h (by omega)) hL]
          exact HX.out.drewN _
        · have hL : ltI (G r) (G p) = true := by
            have : (!ltI (G r) (G p)) = false := by assumption
            simpa using this
          have c3 : ∀ q : Nat, ∃ v', ((wx.drewN q).setCell ⟨blk, r, none⟩ (.float .f64 (F (G p)))).cell? ⟨blk, p, none⟩ = some v' := fun q => cell?_setCell_some g1
          go_region
          all_goals go_wp2
          go_roundw
          case rel =>
            refine ⟨c, swp dk r p, by go_num, by omega, hide ⟨HX.out.swapG hG _ r p, ?_⟩⟩
            rw [← HO.out.2]
            exact (sd_l_go hG (by omega) (by omega) (by omega) (by omega) (fun h => absurd h (by omega)) hL).symm
          case measure => simp [intOf]; omega

set_option maxRecDepth 100000 in
set_option maxHeartbeats 4000000 in
/-- slices.heapSortOrdered at float64. -/
theorem heapSort_f (blk N cap a b : Nat) (d : Array Sv) (W w : World) (hF : Fr W blk N d w) (hab : a < b) (hb : b ≤ N) (hN : N ≤ 65536) :
    Calls Yba.prog 57 #[.slice (some ⟨blk, 0, none⟩) N cap, .int .i64 a, .int .i64 b] w fun e w' => e = .returned (.tuple #[]) ∧ Fr W blk N (Sort.heapSort lts d a b) w' := by
  have HF : Hid (Fr W blk N d w) := hF
  clear hF
  obtain ⟨M, hM⟩ : ∃ M : Nat, (b : Int) - a = M := ⟨b - a, by omega⟩
  obtain ⟨L, hL⟩ : ∃ L : Nat, (M : Int) - 1 = L := ⟨M - 1, by omega⟩
  obtain ⟨Z, hZ⟩ : ∃ Z : Nat, (L : Int) / 2 = Z := ⟨L / 2, by omega⟩
  go_enter Yba.func57, Yba.ntmps57
  go_wp2
  go_loopg [9] (Z + 1) (fun k s9 wr => s9 = .int .i64 ((k : Int) - 1) ∧ k ≤ Z + 1 ∧ ∃ (dk : Array Sv), Hid (Fr W blk N dk wr ∧ heapBuild lts M a k dk = heapBuild lts M a (Z + 1) d))
  case atStart => exact ⟨by congr 1; omega, Nat.le_refl _, d, hide ⟨HF.out, rfl⟩⟩
  case round =>
    obtain ⟨rfl, hkk, dk, HO⟩ := hrel
    cases gk with
    | zero =>
      go_wp2
      go_loopg [10] M (fun k s10 wr2 => s10 = .int .i64 ((k : Int) - 1) ∧ k ≤ M ∧ ∃ (dj : Array Sv), Hid (Fr W blk N dj wr2 ∧ heapPop lts a k dj = heapPop lts a M dk))
      case atStart => exact ⟨by congr 1; omega, Nat.le_refl _, dk, hide ⟨HO.out.1, rfl⟩⟩
      case round =>
        obtain ⟨rfl, hkk, dj, HP⟩ := hrel
        cases gk with
        | zero =>
          go_wp2
          go_end0
          refine ⟨rfl, ?_⟩
          have e : dj = Sort.heapSort lts d a b := by
            rw [Sort.heapSort, show b - a = M by omega, show (M - 1) / 2 + 1 = Z + 1 by omega, ← HO.out.2]
            exact HP.out.2
          rw [← e]
          exact HP.out.1
        | succ k =>
          obtain ⟨p, hp⟩ : ∃ p : Nat, (a : Int) + k = p := ⟨a + k, by omega⟩
          obtain ⟨G, hG, hS⟩ := names dj
          have c1 := HP.out.1.cell hG (i := a) (by omega)
          have c2 := HP.out.1.cell hG (i := p) (by omega)
          have f1 := HP.out.1.frozen (i := a) (by omega)
          have f2 := HP.out.1.frozen (i := p) (by omega)
          have i1 : (a : Int) < N := by omega
          have i2 : (p : Int) < N := by omega
          have w1 := wrapN p (by omega)
          obtain ⟨v3, c3⟩ := cell?_setCell_some (p := ⟨blk, a, none⟩) (x := .float .f64 (F (G p))) c2
          have hk1 : ((k + 1 : Nat) : Int) - 1 = k := by omega
          go_wp2_with fail
          go_region
          go_wp2_with fail
          have HX : Fr W blk N (swp dj a p) (((wr.setCell ⟨blk, a, none⟩ (.float .f64 (F (G p)))).setCell ⟨blk, p, none⟩ (.float .f64 (F (G a)))).drew) := by
            have := (HP.out.1.swap a p).drew
            rw [← hG.out, ← hG.out] at this
            exact this
          refine (siftDown_f blk N cap 0 k a _ W _ HX (by omega) (by omega) hN).mono ?_
          rintro e w1 ⟨rfl, hw1⟩
          have HY : Hid (Fr W blk N (Sort.siftDown lts k a 0 (swp dj a p)) w1) := hw1
          clear hw1 HX
          go_wp2
          go_roundg k
          case measure => omega
          case rel =>
            refine ⟨by congr 1, by omega, _, hide ⟨HY.out, ?_⟩⟩
            rw [← HP.out.2, show p = a + k by omega]
            rfl
    | succ k =>
      have hk1 : ((k + 1 : Nat) : Int) - 1 = k := by omega
      go_wp2_with (go_at_call 65; refine (siftDown_f blk N cap k M a dk W _ HO.out.1 (by omega) (by omega) hN).mono ?_; rintro e w1 ⟨rfl, hw1⟩)
      go_roundg k
      case measure => omega
      case rel => exact ⟨by congr 1, by omega, _, hide ⟨hw1, HO.out.2⟩⟩

set_option maxRecDepth 100000 in
set_option maxHeartbeats 4000000 in
/-- slices.reverseRangeOrdered at float64. -/
theorem reverseRange_f (blk N cap a b : Nat) (d : Array Sv) (W w : World) (hF : Fr W blk N d w) (hab : a < b) (hb : b ≤ N) (hN : N ≤ 65536) :
    Calls Yba.prog 60 #[.slice (some ⟨blk, 0, none⟩) N cap, .int .i64 a, .int .i64 b] w fun e w' => e = .returned (.tuple #[]) ∧ Fr W blk N (Sort.reverseRange d a b) w' := by
  have HF : Hid (Fr W blk N d w) := hF
  clear hF
  obtain ⟨L, hL⟩ : ∃ L : Nat, (b : Int) - 1 = L := ⟨b - 1, by omega⟩
  go_enter Yba.func60, Yba.ntmps60
  go_wp2
  go_loopw [6, 7] (fun vi vj wr => ∃ (i j : Nat) (dk : Array Sv), vi = .int .i64 i ∧ vj = .int .i64 j ∧ i ≤ j + 1 ∧ j < b ∧ Hid (Fr W blk N dk wr ∧ reverseLoop i j dk = reverseLoop a L d)) (fun vi vj _ => (intOf vj - intOf vi).toNat)
  case atStart => exact ⟨a, L, d, rfl, rfl, by omega, by omega, hide ⟨HF.out, rfl⟩⟩
  case round =>
    obtain ⟨i, j, dk, rfl, rfl, hij, hjb, HO⟩ := hrel
    obtain ⟨G, hG, hS⟩ := names dk
    by_cases h0 : i < j
    · have c1 := HO.out.1.cell hG (i := i) (by omega)
      have c2 := HO.out.1.cell hG (i := j) (by omega)
      have f1 := HO.out.1.frozen (i := i) (by omega)
      have f2 := HO.out.1.frozen (i := j) (by omega)
      have i1 : (i : Int) < N := by omega
      have i2 : (j : Int) < N := by omega
      obtain ⟨v3, c3⟩ := cell?_setCell_some (p := ⟨blk, i, none⟩) (x := .float .f64 (F (G j))) c2
      go_wp2_with fail
      go_region
      all_goals go_wp2
      go_roundw
      case rel =>
        refine ⟨i + 1, j - 1, swp dk i j, by go_num, by congr 1; omega, by omega, by omega, hide ⟨?_, ?_⟩⟩
        · have := (HO.out.1.swap i j).drew
          rw [← hG.out, ← hG.out] at this
          exact this
        · rw [← HO.out.2]; conv => rhs; rw [reverseLoop, if_pos h0]
      case measure => simp [intOf]; omega
    · go_wp2
      go_end0
      refine ⟨rfl, ?_⟩
      rw [Sort.reverseRange, show b - 1 = L by omega, ← HO.out.2, reverseLoop, if_neg h0]
      exact HO.out.1
end Go.Proofs.Ybulkdzjs.A

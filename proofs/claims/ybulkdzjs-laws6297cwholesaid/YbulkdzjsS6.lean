/- The library's sort at float64: the pivot's choice, the broken patterns. What is said of them: the pivot's range; a permutation. -/
import Derived.Test.YbulkdzjsS5
import Derived.Test.YbulkdzjsShelf
import Derived.Sort.Walk7
import Derived.Sort.Walk11
namespace Go.Proofs.Ybulkdzjs.A
open Go.RowKit Flt Go.Sort
attribute [local go_sem] run_store_flt

/-- The row holds d; the counter 's' lies in block sb, made since V. -/
def Sw (V : World) (blk N : Nat) (d : Array Sv) (sb : Nat) (v : Value) (w : World) : Prop :=
  Fr V blk N d w ∧ w.cell? ⟨sb, 0, none⟩ = some v ∧ w.frozen? ⟨sb, 0, none⟩ = false ∧ V.heap.size ≤ sb ∧ sb ≠ blk
section
variable {V w : World} {blk N sb : Nat} {d : Array Sv} {v : Value}
theorem Sw.drewN (h : Sw V blk N d sb v w) (q : Nat) : Sw V blk N d sb v (w.drewN q) := ⟨h.1.drewN q, h.2⟩
theorem Fr.setOther (h : Fr V blk N d w) (u : Value) (o : Nat) (hs : V.heap.size ≤ sb) (hn : sb ≠ blk) : Fr V blk N d (w.setCell ⟨sb, o, none⟩ u) := by
  refine ⟨h.1, fun j hj => ⟨?_, ?_⟩, ?_⟩
  · rw [World.cell?_setCell_other _ _ _ _ (by intro k; injection k with k1 _ _; exact hn k1)]
    exact (h.2.1 j hj).1
  · rw [World.frozen?_setCell]; exact (h.2.1 j hj).2
  · have g := grown_setCell w sb o u
    refine ⟨h.2.2.os, h.2.2.tape, h.2.2.output, Nat.le_trans h.2.2.size g.size, fun k hk hne => ?_⟩
    rw [g.block k (Nat.lt_of_lt_of_le hk h.2.2.size) (by intro e; injection e with e; omega)]
    exact h.2.2.block k hk hne
theorem Sw.set (h : Sw V blk N d sb v w) (u : Value) : Sw V blk N d sb u (w.setCell ⟨sb, 0, none⟩ u) :=
  ⟨h.1.setOther u 0 h.2.2.2.1 h.2.2.2.2, World.cell?_setCell_same _ _ _ h.2.1, by rw [World.frozen?_setCell]; exact h.2.2.1, h.2.2.2⟩
theorem Fr.alloc (h : Fr V blk N d w) (hb : blk < w.heap.size) (o : Obj) : Fr V blk N d (w.alloc o) := by
  refine ⟨h.1, fun j hj => ⟨?_, ?_⟩, grown_trans h.2.2 (World.grownBy_alloc w o _)⟩
  · rw [World.cell?_alloc_past _ _ _ hb]; exact (h.2.1 j hj).1
  · rw [World.frozen?_alloc_past _ _ _ hb]; exact (h.2.1 j hj).2
theorem Fr.sw (h : Fr V blk N d w) (hb : blk < w.heap.size) (u : Value) (T : TypeId) : Sw V blk N d w.heap.size u (w.alloc (.cells #[u] T)) := by
  exact ⟨h.alloc hb _, World.cell?_alloc_at (w := w) #[u] T w.heap.size 0 rfl, World.frozen?_alloc_at (w := w) #[u] T w.heap.size 0 rfl, h.2.2.size, by omega⟩
end

set_option maxRecDepth 100000 in
set_option maxHeartbeats 4000000 in
theorem order2_f (blk N cap a b sb s : Nat) (d : Array Sv) (V w : World) (hF : Sw V blk N d sb (.int .i64 s) w) (ha : a < N) (hb : b < N) (hs : s ≤ 1000) (_hN : N ≤ 65536) :
    Calls Yba.prog 69 #[.slice (some ⟨blk, 0, none⟩) N cap, .int .i64 a, .int .i64 b, .pointer (some ⟨sb, 0, none⟩)] w fun e w' => ∃ x y s' : Nat, e = .returned (.tuple #[.int .i64 x, .int .i64 y]) ∧ ((x = a ∧ y = b) ∨ (x = b ∧ y = a)) ∧ s' ≤ s + 1 ∧ Sw V blk N d sb (.int .i64 s') w' := by
  have HF := hide hF
  obtain ⟨G, hG, hS⟩ := names d
  have c1 := hF.1.cell hG ha
  have c2 := hF.1.cell hG hb
  have c3 := hF.2.1
  have f3 := hF.2.2.1
  have i1 : (a : Int) < N := by omega
  have i2 : (b : Int) < N := by omega
  clear hF
  go_enter Yba.func69, Yba.ntmps69
  go_wp2_with fail
  go_quiet (first | (go_at_call 62; refine Calls.quiet_of_same (less_f _ _ (hS _) (hS _) _)))
  go_wp2
  · go_ret2
    exact ⟨b, a, s + 1, rfl, Or.inr ⟨rfl, rfl⟩, Nat.le_refl _, (HF.out.drewN _).set _⟩
  · go_ret2
    exact ⟨a, b, s, rfl, Or.inl ⟨rfl, rfl⟩, by omega, HF.out.drewN _⟩

set_option maxRecDepth 100000 in
set_option maxHeartbeats 4000000 in
theorem median_f (blk N cap a b c sb s : Nat) (d : Array Sv) (V w : World) (hF : Sw V blk N d sb (.int .i64 s) w) (ha : a < N) (hb : b < N) (hc : c < N) (hs : s ≤ 900) (hN : N ≤ 65536) :
    Calls Yba.prog 67 #[.slice (some ⟨blk, 0, none⟩) N cap, .int .i64 a, .int .i64 b, .int .i64 c, .pointer (some ⟨sb, 0, none⟩)] w fun e w' => ∃ x s' : Nat, e = .returned (.int .i64 x) ∧ (x = a ∨ x = b ∨ x = c) ∧ s' ≤ s + 3 ∧ Sw V blk N d sb (.int .i64 s') w' := by
  go_enter Yba.func67, Yba.ntmps67
  go_wp2_with fail
  refine (order2_f blk N cap a b sb s d V _ hF ha hb (by omega) hN).mono ?_
  rintro e w1 ⟨x1, y1, s1, rfl, h1, hs1, H1⟩
  go_wp2_with fail
  refine (order2_f blk N cap y1 c sb s1 d V _ H1 (by omega) hc (by omega) hN).mono ?_
  rintro e w2 ⟨x2, y2, s2, rfl, h2, hs2, H2⟩
  go_wp2_with fail
  refine (order2_f blk N cap x1 x2 sb s2 d V _ H2 (by omega) (by omega) (by omega) hN).mono ?_
  rintro e w3 ⟨x3, y3, s3, rfl, h3, hs3, H3⟩
  go_wp2_with fail
  go_ret
  exact ⟨y3, s3, rfl, by omega, by omega, H3⟩

set_option maxRecDepth 100000 in
set_option maxHeartbeats 4000000 in
theorem medianAdjacent_f (blk N cap a sb s : Nat) (d : Array Sv) (V w : World) (hF : Sw V blk N d sb (.int .i64 s) w) (ha : 1 ≤ a) (hb : a + 1 < N) (hs : s ≤ 800) (hN : N ≤ 65536) :
    Calls Yba.prog 66 #[.slice (some ⟨blk, 0, none⟩) N cap, .int .i64 a, .pointer (some ⟨sb, 0, none⟩)] w fun e w' => ∃ x s' : Nat, e = .returned (.int .i64 x) ∧ a ≤ x + 1 ∧ x ≤ a + 1 ∧ s' ≤ s + 3 ∧ Sw V blk N d sb (.int .i64 s') w' := by
  obtain ⟨p, hp⟩ : ∃ p : Nat, (a : Int) - 1 = p := ⟨a - 1, by omega⟩
  obtain ⟨q, hq⟩ : ∃ q : Nat, (a : Int) + 1 = q := ⟨a + 1, by omega⟩
  go_enter Yba.func66, Yba.ntmps66
  go_wp2_with fail
  refine (median_f blk N cap p a q sb s d V _ hF (by omega) (by omega) (by omega) (by omega) hN).mono ?_
  rintro e w1 ⟨x, s', rfl, h1, hs1, H1⟩
  go_wp2_with fail
  go_ret
  exact ⟨x, s', rfl, by omega, by omega, by omega, H1⟩

set_option maxRecDepth 100000 in
set_option maxHeartbeats 4000000 in
/-- slices.choosePivotOrdered at float64: a place of the range; a hint. -/
theorem choosePivot_f (blk N cap a b : Nat) (d : Array Sv) (V w : World) (hF : Fr V blk N d w) (hbl : blk < w.heap.size) (hab : a + 12 < b) (hb : b ≤ N) (hN : N ≤ 65536) :
    Calls Yba.prog 59 #[.slice (some ⟨blk, 0, none⟩) N cap, .int .i64 a, .int .i64 b] w fun e w' => ∃ p h : Nat, e = .returned (.tuple #[.int .i64 p, .int .i64 h]) ∧ a ≤ p ∧ p < b ∧ h ≤ 2 ∧ Fr V blk N d w' := by
  obtain ⟨M, hM⟩ : ∃ M : Nat, (b : Int) - a = M := ⟨b - a, by omega⟩
  obtain ⟨Q, hQ⟩ : ∃ Q : Nat, (M : Int) / 4 = Q := ⟨M / 4, by omega⟩
  obtain ⟨p1, hp1⟩ : ∃ p : Nat, (a : Int) + Q = p := ⟨a + Q, by omega⟩
  obtain ⟨p2, hp2⟩ : ∃ p : Nat, (a : Int) + (Q : Int) * 2 = p := ⟨a + Q * 2, by omega⟩
  obtain ⟨p3, hp3⟩ : ∃ p : Nat, (a : Int) + (Q : Int) * 3 = p := ⟨a + Q * 3, by omega⟩
  have h8 : (8 : Int) ≤ M := by omega
  have HS := hide (hF.sw hbl (.int .i64 0) 3)
  clear hF
  go_enter Yba.func59, Yba.ntmps59
  go_upto_if 32 with fail
  have hsb : Hid (w.heap.size ≠ blk) := hide (by omega)
  generalize w.alloc (Obj.cells #[Value.int IntKind.i64 0] 3) = w0 at HS ⊢
  generalize w.heap.size = sb at HS hsb ⊢
  clear hbl
  go_cut [11] (fun v wx => ∃ p s : Nat, v = .int .i64 p ∧ a ≤ p ∧ p < b ∧ s ≤ 12 ∧ Hid (Sw V blk N d sb (.int .i64 s) wx))
  case first =>
    by_cases h50 : (50 : Int) ≤ M
    · go_wp2_with fail
      refine (medianAdjacent_f blk N cap p1 sb 0 d V _ HS.out (by omega) (by omega) (by omega) hN).mono ?_
      rintro e w1 ⟨x1, s1, rfl, h1, h1', hs1, H1⟩
      have H1 := hide H1
      go_wp2_with fail
      refine (medianAdjacent_f blk N cap p2 sb s1 d V _ H1.out (by omega) (by omega) (by omega) hN).mono ?_
      rintro e w2 ⟨x2, s2, rfl, h2, h2', hs2, H2⟩
      have H2 := hide H2
      go_wp2_with fail
      refine (medianAdjacent_f blk N cap p3 sb s2 d V _ H2.out (by omega) (by omega) (by omega) hN).mono ?_
      rintro e w3 ⟨x3, s3, rfl, h3, h3', hs3, H3⟩
      have H3 := hide H3
      go_wp2_with fail
      refine (median_f blk N cap x1 x2 x3 sb s3 d V _ H3.out (by omega) (by omega) (by omega) (by omega) hN).mono ?_
      rintro e w4 ⟨x4, s4, rfl, h4, hs4, H4⟩
      have H4 := hide H4
      go_wp2_with fail
      go_meet
      case rel => exact ⟨x4, s4, rfl, by omega, by omega, by omega, H4⟩
    · go_wp2_with fail
      refine (median_f blk N cap p1 p2 p3 sb 0 d V _ HS.out (by omega) (by omega) (by omega) (by omega) hN).mono ?_
      rintro e w4 ⟨x4, s4, rfl, h4, hs4, H4⟩
      have H4 := hide H4
      go_wp2_with fail
      go_meet
      case rel => exact ⟨x4, s4, rfl, by omega, by omega, by omega, H4⟩
  case rest =>
    obtain ⟨p, s, rfl, hap, hpb, hs, HC⟩ := hcut
    have c3 := HC.out.2.1
    have f3 := HC.out.2.2.1
    go_wp2
    · go_ret2
      exact ⟨p, 1, rfl, hap, hpb, by omega, HC.out.1⟩
    · go_ret2
      exact ⟨p, 2, rfl, hap, hpb, by omega, HC.out.1⟩
    · go_ret2
      exact ⟨p, 0, rfl, hap, hpb, by omega, HC.out.1⟩

/-- slices.nextPowerOfTwo: at least 1, at most twice its argument. -/
theorem nextPow_f (n : Nat) (hn : 1 ≤ n) (hn' : n ≤ 65536) (w : World) :
    Calls Yba.prog 48 #[.int .i64 n] w fun e w' => ∃ M : Nat, e = .returned (.int .u64 M) ∧ 1 ≤ M ∧ M ≤ 2 * n ∧ w' = w := by
  have hLen : ∀ w, Calls Yba.prog 23 #[.int .u64 (n : Int)] w fun e w' => e = .returned (.int .i64 (bitsLen n : Nat)) ∧ w' = w := fun w => by
    have h := Yba.bits_Len (n : Int) w (by omega) (by omega)
    rwa [Int.toNat_natCast, bitLen_eq _ (by omega)] at h
  have hk : bitsLen n ≤ 62 := (bitsLen_le_iff n 62).2 (by omega)
  have hp := wrap_two_pow (bitsLen n) hk
  have h2 := two_pow_bitsLen_le (n := n) (by omega)
  have h1 := Nat.two_pow_pos (bitsLen n)
  go_enter Yba.func48, Yba.ntmps48
  go_wp2_with (first | (go_at_call 23; refine (hLen _).mono ?_; rintro e w' ⟨rfl, rfl⟩))
  go_ret
  exact ⟨1 <<< bitsLen n, rfl, by rw [Nat.one_shiftLeft]; omega, by rw [Nat.one_shiftLeft]; exact h2, rfl⟩

set_option maxRecDepth 100000 in
set_option maxHeartbeats 4000000 in
/-- (*slices.xorshift).Next: some number, which the cell then holds. -/
theorem next_f (blk N sb X : Nat) (d : Array Sv) (hX : X < 18446744073709551616) (V w : World) (hF : Sw V blk N d sb (.int .u64 X) w) :
    Calls Yba.prog 49 #[.pointer (some ⟨sb, 0, none⟩)] w fun e w' => ∃ C : Nat, e = .returned (.int .u64 C) ∧ C < 18446744073709551616 ∧ Sw V blk N d sb (.int .u64 C) w' := by
  obtain ⟨A, hA⟩ : ∃ A : Nat, A = X ^^^ (X * 8192 % 18446744073709551616) := ⟨_, rfl⟩
  obtain ⟨B, hB⟩ : ∃ B : Nat, B = A ^^^ (A / 128) := ⟨_, rfl⟩
  obtain ⟨C, hC⟩ : ∃ C : Nat, C = B ^^^ (B * 131072 % 18446744073709551616) := ⟨_, rfl⟩
  have lA : A < 18446744073709551616 := by rw [hA]; exact Nat.xor_lt_two_pow (n := 64) (by omega) (by omega)
  have lB : B < 18446744073709551616 := by rw [hB]; exact Nat.xor_lt_two_pow (n := 64) (by omega) (by omega)
  have lC : C < 18446744073709551616 := by rw [hC]; exact Nat.xor_lt_two_pow (n := 64) (by omega) (by omega)
  have e1 : bits .xor .u64 (X : Int) (IntKind.u64.wrap ((X : Int) * 8192)) = (A : Int) := by
    rw [IntKind.wrap_u64, show ((X : Int) * 8192 % 18446744073709551616) = ((X * 8192 % 18446744073709551616 : Nat) : Int) by omega, bits_xor_u64_nat _ _ hX (by omega), hA]
  have e2 : bits .xor .u64 (A : Int) ((A : Int) / 128) = (B : Int) := by
    rw [show ((A : Int) / 128) = ((A / 128 : Nat) : Int) by omega, bits_xor_u64_nat _ _ lA (by omega), hB]
  have e3 : bits .xor .u64 (B : Int) (IntKind.u64.wrap ((B : Int) * 131072)) = (C : Int) := by
    rw [IntKind.wrap_u64, show ((B : Int) * 131072 % 18446744073709551616) = ((B * 131072 % 18446744073709551616 : Nat) : Int) by omega, bits_xor_u64_nat _ _ lB (by omega), hC]
  clear hA hB hC
  have hss : ∀ v v', (w.setCell ⟨sb, 0, none⟩ v).setCell ⟨sb, 0, none⟩ v' = w.setCell ⟨sb, 0, none⟩ v' := setCell_setCell w sb 0
  have hc := hF.2.1
  have hf := hF.2.2.1
  have HF := hide hF
  clear hF
  go_enter Yba.func49, Yba.ntmps49
  go_wp2
  go_region
  all_goals go_wp2
  all_goals go_region
  all_goals go_wp2
  all_goals go_region
  all_goals go_wp2
  go_ret
  exact ⟨C, rfl, lC, ((HF.out.set _).drewN 3 : _)⟩

theorem Sw.setRow {V w : World} {blk N sb : Nat} {d : Array Sv} {v : Value} (h : Sw V blk N d sb v w) (i : Nat) (x : Sv) : Sw V blk N (d.setIfInBounds i x) sb v (w.setCell ⟨blk, i, none⟩ (.float .f64 (F x.1))) := by
  have hne : (⟨blk, i, none⟩ : Addr) ≠ ⟨sb, 0, none⟩ := by intro k; injection k with k1 _ _; exact h.2.2.2.2 k1.symm
  exact ⟨h.1.setCell i x, (World.cell?_setCell_other _ _ _ _ hne).trans h.2.1, (World.frozen?_setCell ..).trans h.2.2.1, h.2.2.2⟩
theorem Sw.drew {V w : World} {blk N sb : Nat} {d : Array Sv} {v : Value} (h : Sw V blk N d sb v w) : Sw V blk N d sb v w.drew := ⟨h.1.drew, h.2⟩
theorem Sw.swapD {V w : World} {blk N sb : Nat} {d : Array Sv} {v : Value} (h : Sw V blk N d sb v w) {G : Nat → Int} (hG : Hid (∀ t, G t = (d[t]!).1)) (i j : Nat) : Sw V blk N (swp d i j) sb v ((w.setCell ⟨blk, i, none⟩ (.float .f64 (F (G j)))).setCell ⟨blk, j, none⟩ (.float .f64 (F (G i)))).drew := by
  rw [hG.out, hG.out]
  exact ((h.setRow i d[j]!).setRow j d[i]!).drew

set_option maxRecDepth 100000 in
set_option maxHeartbeats 4000000 in
/-- slices.breakPatternsOrdered at float64: a permutation of the range. -/
theorem breakPatterns_f (blk N cap a b : Nat) (d : Array Sv) (V w : World) (hF : Fr V blk N d w) (hbl : blk < w.heap.size) (hab : a + 12 < b) (hb : b ≤ N) (hN : N ≤ 65536) :
    Calls Yba.prog 58 #[.slice (some ⟨blk, 0, none⟩) N cap, .int .i64 a, .int .i64 b] w fun e w' => ∃ d' : Array Sv, e = .returned (.tuple #[]) ∧ PermIn a b d d' ∧ Fr V blk N d' w' := by
  obtain ⟨L, hL⟩ : ∃ M : Nat, (b : Int) - a = M := ⟨b - a, by omega⟩
  obtain ⟨Q, hQ⟩ : ∃ Q : Nat, (L : Int) / 4 = Q := ⟨L / 4, by omega⟩
  obtain ⟨p2, hp2⟩ : ∃ p : Nat, (a : Int) + (Q : Int) * 2 = p := ⟨a + Q * 2, by omega⟩
  obtain ⟨i0, hi0⟩ : ∃ i : Nat, (p2 : Int) - 1 = i := ⟨p2 - 1, by omega⟩
  obtain ⟨i9, hi9⟩ : ∃ i : Nat, (p2 : Int) + 1 = i := ⟨p2 + 1, by omega⟩
  have h8 : (8 : Int) ≤ L := by omega
  have HS := hide (hF.sw hbl (.int .u64 L) 109)
  have hsz : Hid (d.size = N) := hide hF.1
  clear hF
  go_enter Yba.func58, Yba.ntmps58
  go_wp2_with fail
  refine (nextPow_f L (by omega) (by omega) _).mono ?_
  rintro e w1 ⟨M, rfl, hM1, hM2, rfl⟩
  go_wp2_with fail
  have hsb : Hid (w.heap.size ≠ blk) := hide (by omega)
  generalize w.alloc (Obj.cells #[Value.int IntKind.u64 L] 109) = w0 at HS ⊢
  generalize w.heap.size = sb at HS hsb ⊢
  clear hbl
  go_loopw [9] (fun vi wr => ∃ (i X : Nat) (dk : Array Sv), vi = .int .i64 i ∧ i0 ≤ i ∧ i ≤ i9 + 1 ∧ X < 18446744073709551616 ∧ Hid (PermIn a b d dk ∧ Sw V blk N dk sb (.int .u64 X) wr)) (fun vi _ => i9 + 1 - (intOf vi).toNat)
  case atStart => exact ⟨i0, L, d, rfl, Nat.le_refl _, by omega, by omega, hide ⟨permIn_refl d a b, HS.out⟩⟩
  case round =>
    obtain ⟨i, X, dk, rfl, hi1, hi2, hX, HO⟩ := hrel
    by_cases hle : i ≤ i9
    · go_wp2_with fail
      refine (next_f blk N sb X dk hX V _ HO.out.2).mono ?_
      rintro e w2 ⟨C, rfl, hC, H2⟩
      have H2 := hide H2
      obtain ⟨m1, hm1⟩ : ∃ m : Nat, (M : Int) - 1 = m := ⟨M - 1, by omega⟩
      obtain ⟨O, hO⟩ : ∃ O : Nat, O = C &&& m1 := ⟨_, rfl⟩
      have lO : O ≤ m1 := by rw [hO]; exact Nat.and_le_right
      have eAnd : bits .and .u64 (C : Int) (m1 : Int) = (O : Int) := by
        rw [bits_and_u64_nat _ _ hC (by omega), hO]
      clear hO
      go_upto_if 43 with fail
      go_cut [10] (fun v wx => ∃ o : Nat, v = .int .i64 o ∧ o < L ∧ Hid (Sw V blk N dk sb (.int .u64 C) wx))
      case first =>
        by_cases hge : L ≤ O
        · go_wp2_with fail
          go_meet
          case rel => exact ⟨O - L, by congr 1; omega, by omega, H2⟩
        · go_wp2_with fail
          go_meet
          case rel => exact ⟨O, rfl, by omega, H2⟩
      case rest =>
        obtain ⟨o, rfl, ho, HP⟩ := hcut
        obtain ⟨p, hp⟩ : ∃ p : Nat, (a : Int) + o = p := ⟨a + o, by omega⟩
        obtain ⟨G, hG, hS⟩ := names dk
        have c1 := HP.out.1.cell hG (i := i) (by omega)
        have c2 := HP.out.1.cell hG (i := p) (by omega)
        have f1 := HP.out.1.frozen (i := i) (by omega)
        have f2 := HP.out.1.frozen (i := p) (by omega)
        have i3 : (i : Int) < N := by omega
        have i4 : (p : Int) < N := by omega
        have w1 := wrapN p (by omega)
        obtain ⟨v3, c3⟩ := cell?_setCell_some (p := ⟨blk, i, none⟩) (x := .float .f64 (F (G p))) c2
        go_wp2_with fail
        go_region
        go_wp2_with fail
        go_roundw
        case rel =>
          refine ⟨i + 1, C, swp dk i p, by go_num, by omega, by omega, hC, hide ⟨?_, HP.out.swapD hG i p⟩⟩
          refine permIn_trans d dk _ a b HO.out.1 (swp_permIn dk a b i p (by omega) (by omega) (by omega) (by omega) ?_)
          rw [HO.out.1.1, hsz.out]
          exact hb
        case measure => simp [intOf]; omega
    · go_wp2_with fail
      go_end0
      exact ⟨dk, rfl, HO.out.1, HO.out.2.1⟩
end Go.Proofs.Ybulkdzjs.A

/- 6297C: keptEntry. -/
import Derived.Test.YbulkdzjsC5
namespace Go.Proofs.Ybulkdzjs.A
open Go.RowKit Flt
attribute [local go_sem] run_store_flt

/-- The code that is kept of node j. -/
def kept (N : Nd) (j : Nat) : Nat :=
  if (if j = N.self then N.cu else N.cf (j - 1)) = true then 0
  else if N.fo = true then wq N (j - 1)
  else if N.ec (j - 1) ≠ 0 ∧ (N.n : Int) - N.f ≤ ((1 + cnt (Tr N (j - 1) (N.ec (j - 1))) N.n : Nat) : Int) then N.ec (j - 1) else 0
section
variable {W w w' : World} {cb : Nat}
theorem Kp.refl (hf : w.frozen? ⟨cb, 16, none⟩ = false) (hl : cb < w.heap.size) : Kp cb w w := ⟨grown_refl _ _, fun _ _ => rfl, hf, hl⟩
theorem Kp.trans (h1 : Kp cb W w) (h2 : Kp cb w w') : Kp cb W w' := ⟨grown_trans h1.1 h2.1, fun o ho => (h2.2.1 o ho).trans (h1.2.1 o ho), h2.2.2.1, h1.2.2.2⟩
theorem Kp.put (h : Kp cb W w) (x : Nat) (y : Bool) : Kp cb W ((w.setCell ⟨W.heap.size, 0, none⟩ (.float .f64 x)).setCell ⟨W.heap.size, 1, none⟩ (.bool y)) :=
  h.grown (grown_trans (grown_setCell w W.heap.size 0 _) (grown_setCell _ W.heap.size 1 _)) (fun k e => by injection e with e; omega)
theorem Kp.put2 (h : Kp cb W w) (b x : Nat) (y : Bool) (hb : W.heap.size ≤ b) : Kp cb W ((w.setCell ⟨b, 0, none⟩ (.float .f64 x)).setCell ⟨b, 1, none⟩ (.bool y)) :=
  h.grown (grown_trans (grown_setCell w b 0 _) (grown_setCell _ b 1 _)) (fun k e => by injection e with e; omega)
theorem Pr.put {b x x' : Nat} {y y' : Bool} (h : Pr b x y w) : Pr b x' y' ((w.setCell ⟨b, 0, none⟩ (.float .f64 x')).setCell ⟨b, 1, none⟩ (.bool y')) := by
  have n1 : (⟨b, 0, none⟩ : Addr) ≠ ⟨b, 1, none⟩ := by intro e; injection e with _ e _; cases e
  refine ⟨?_, ?_, ?_, ?_⟩
  · rw [World.cell?_setCell_other _ _ _ _ n1.symm]; exact World.cell?_setCell_same _ _ _ h.1
  · exact World.cell?_setCell_same _ _ _ ((World.cell?_setCell_other _ _ _ _ n1).trans h.2.1)
  · rw [World.frozen?_setCell, World.frozen?_setCell]; exact h.2.2.1
  · rw [World.frozen?_setCell, World.frozen?_setCell]; exact h.2.2.2
theorem Pr.other {b b' x x' : Nat} {y y' : Bool} (h : Pr b x y w) (hb : b ≠ b') : Pr b x y ((w.setCell ⟨b', 0, none⟩ (.float .f64 x')).setCell ⟨b', 1, none⟩ (.bool y')) :=
  h.grown (grown_trans (grown_setCell w b' 0 _) (grown_setCell _ b' 1 _)) (by intro e; injection e with e; exact hb e)
end

set_option maxRecDepth 100000 in
set_option maxHeartbeats 4000000 in
theorem keptEntry_f (A : At) (N : Nd) (j : Nat) (w : World) (h : CCw A N w) (d : Dj A N) (h16 : w.cell? ⟨A.cb, 16, none⟩ = some (.slice none 0 0)) (f16 : w.frozen? ⟨A.cb, 16, none⟩ = false)
    (h1 : 1 ≤ j) (hj : j ≤ N.n) (hn : N.n ≤ 256) (hf : N.f ≤ 256) (hv : ∀ k i, N.vc k i ≤ 5) (he : ∀ i, N.ec i ≤ 5) :
    Calls Yba.prog 17 #[.pointer (some ⟨A.cb, 0, none⟩), .int .i64 j] w fun e w' => e = .returned (ent (kept N j)) ∧ Kp A.cb w w' := by
  have hl : A.cb < w.heap.size := World.block_lt_of_cell? _ _ h16
  have hK : ∀ k, k = kept N j → Hid (k = kept N j) := fun k e => e
  have Hv := hide hv
  have He := hide he
  have Hd := hide d
  have K0 := hide (Kp.refl f16 hl)
  have H := hide h
  have H16 := hide h16
  clear h d hv he h16
  go_enter Yba.func17, Yba.ntmps17
  go_wp2_with fail
  have hb : Below w.heap.size w (w.alloc (.cells #[.float .f64 0, .bool false] 69)) := (Below.refl _ _).alloc (Nat.le_refl _) _
  have K1 := hide (K0.out.below hb)
  have P1 := hide (Pr.alloc w 0 false 69)
  have c16 := hide (below_cell hb hl H16.out)
  clear hb
  generalize w.alloc (.cells #[.float .f64 0, .bool false] 69) = w1 at K1 P1 c16 ⊢
  have C := hide (H.out.kp K1.out Hd.out)
  refine (confessedBy_f A N j w1 C.out h1 hj hn).mono ?_
  rintro e w' ⟨rfl, rfl⟩
  obtain ⟨p1, p2, p3, p4⟩ := P1.out
  have hq0 : ∀ v, (w'.setCell ⟨w.heap.size, 0, none⟩ v).cell? ⟨w.heap.size, 0, none⟩ = some v := fun v => World.cell?_setCell_same _ _ _ p1
  have hq1 : ∀ u v, ((w'.setCell ⟨w.heap.size, 0, none⟩ u).setCell ⟨w.heap.size, 1, none⟩ v).cell? ⟨w.heap.size, 1, none⟩ = some v := fun u v => World.cell?_setCell_same _ _ _ ((World.cell?_setCell_other _ _ _ _ (by intro e; injection e with _ e _; cases e)).trans p2)
  obtain ⟨cn, hcn⟩ : ∃ cn, Hid ((if j = N.self then N.cu else N.cf (j - 1)) = cn) := ⟨_, hide rfl⟩
  rw [hcn.out]
  cases cn
  · have hg11 := C.out.g11
    obtain ⟨fo, hfo⟩ : ∃ fo, Hid (N.fo = fo) := ⟨_, hide rfl⟩
    rw [hfo.out] at hg11
    cases fo
    · have he12 := C.out.e12
      obtain ⟨p, hp⟩ : ∃ p : Nat, (j : Int) - 1 = p := ⟨j - 1, by omega⟩
      have hp' : Hid (j - 1 = p) := hide (by omega)
      have i1 : (p : Int) < N.n := by omega
      obtain ⟨e1, e2⟩ := C.out.en p (by omega)
      obtain ⟨c, hc⟩ : ∃ c, Hid (N.ec p = c) := ⟨_, hide rfl⟩
      have hc5 : c ≤ 5 := by rw [← hc.out]; exact He.out p
      rw [hc.out] at e1 e2
      have hk0 : Hid (∀ b : Prop, ((N.ec (j - 1) ≠ 0 ∧ (N.n : Int) - N.f ≤ ((1 + cnt (Tr N (j - 1) (N.ec (j - 1))) N.n : Nat) : Int)) ↔ b) → ∀ [Decidable b], kept N j = if b then c else 0) := hide (fun b hb _ => by
        unfold kept
        rw [if_neg (by rw [hcn.out]; decide), if_neg (by rw [hfo.out]; decide), hp'.out, hc.out]
        rw [hp'.out, hc.out] at hb
        by_cases h : b
        · rw [if_pos (hb.2 h), if_pos h]
        · rw [if_neg (fun h' => h (hb.1 h')), if_neg h])
      have b1 : Below w'.heap.size w' (w'.alloc (.cells #[.float .f64 (wd c), .bool (vd c)] 69)) := (Below.refl _ _).alloc (Nat.le_refl _) _
      have K2 := hide (K1.out.below b1)
      have P2 := hide (Pr.alloc w' (wd c) (vd c) 69)
      have Q2 := hide (P1.out.grown (below_grown b1 none) (by simp))
      go_upto_region 6 with fail
      clear hq0 hq1 p1 p2 p3 p4 e1 e2 b1 he12 hg11
      generalize w'.alloc (.cells #[.float .f64 (wd c), .bool (vd c)] 69) = w2 at K2 P2 Q2 ⊢
      generalize w'.heap.size = ub at P2 ⊢
      have C2 := hide (H.out.kp K2.out Hd.out)
      obtain ⟨u1, u2, u3, u4⟩ := P2.out
      by_cases hc0 : c = 0
      · subst hc0
        have u2' : w2.cell? ⟨ub, 1, none⟩ = some (.bool false) := u2
        clear u2
        obtain ⟨p1, p2, p3, p4⟩ := Q2.out
        have hq0 : ∀ v, (w2.setCell ⟨w.heap.size, 0, none⟩ v).cell? ⟨w.heap.size, 0, none⟩ = some v := fun v => World.cell?_setCell_same _ _ _ p1
        have hq1 : ∀ u v, ((w2.setCell ⟨w.heap.size, 0, none⟩ u).setCell ⟨w.heap.size, 1, none⟩ v).cell? ⟨w.heap.size, 1, none⟩ = some v := fun u v => World.cell?_setCell_same _ _ _ ((World.cell?_setCell_other _ _ _ _ (by intro e; injection e with _ e _; cases e)).trans p2)
        go_wp2_with fail
        refine bodyPost_ret (by simp [results, Yba.results17, go_sem, hq0, hq1]; try rfl) rfl ?_
        refine ⟨?_, K2.out.put 0 false⟩
        rw [hk0.out False ⟨fun h => h.1 (by rw [hp'.out]; exact hc.out), fun h => h.elim⟩, if_neg (fun h => h)]
        rfl
      · have u2' : w2.cell? ⟨ub, 1, none⟩ = some (.bool true) := by rw [u2]; simp [vd, hc0]
        clear u2
        go_wp2_with fail
        refine (trusted_f A N j c w2 C2.out h1 hj hn hf (by omega) Hv.out).mono ?_
        rintro e w3 ⟨rfl, q, rfl⟩
        have K3 := hide (K2.out.drewN q)
        have P3 := hide (P2.out.drewN q)
        have Q3 := hide (Q2.out.drewN q)
        clear K2 P2 Q2 u1 u2' u3 u4
        generalize w2.drewN q = w3 at K3 P3 Q3 ⊢
        obtain ⟨u1, u2, u3, u4⟩ := P3.out
        obtain ⟨p1, p2, p3, p4⟩ := Q3.out
        have hq0 : ∀ v, (w3.setCell ⟨w.heap.size, 0, none⟩ v).cell? ⟨w.heap.size, 0, none⟩ = some v := fun v => World.cell?_setCell_same _ _ _ p1
        have hq1 : ∀ u v, ((w3.setCell ⟨w.heap.size, 0, none⟩ u).setCell ⟨w.heap.size, 1, none⟩ v).cell? ⟨w.heap.size, 1, none⟩ = some v := fun u v => World.cell?_setCell_same _ _ _ ((World.cell?_setCell_other _ _ _ _ (by intro e; injection e with _ e _; cases e)).trans p2)
        obtain ⟨t, ht⟩ : ∃ t, Hid (decide ((N.n : Int) - N.f ≤ ((1 + cnt (Tr N (j - 1) c) N.n : Nat) : Int)) = t) := ⟨_, hide rfl⟩
        rw [ht.out]
        cases t
        · go_wp2_with fail
          refine bodyPost_ret (by simp [results, Yba.results17, go_sem, hq0, hq1]; try rfl) rfl ?_
          refine ⟨?_, K3.out.put 0 false⟩
          have := of_decide_eq_false ht.out
          rw [hk0.out False ⟨fun h => this (by have h2 := h.2; rw [hp'.out, hc.out] at h2; rw [hp'.out]; exact h2), fun h => h.elim⟩, if_neg (fun h => h)]
          rfl
        · go_wp2_with fail
          refine bodyPost_ret (by simp [results, Yba.results17, go_sem, hq0, hq1]; try rfl) rfl ?_
          refine ⟨?_, K3.out.put (wd c) (vd c)⟩
          have := of_decide_eq_true ht.out
          rw [hk0.out True ⟨fun _ => trivial, fun _ => ⟨by rw [hp'.out, hc.out]; exact hc0, by rw [hp'.out] at this ⊢; rw [hc.out]; exact this⟩⟩, if_pos trivial]
          rfl
    · go_wp2_with fail
      refine (backed_f A N j w' C.out Hd.out h1 hj hn hf Hv.out c16.out K1.out.2.2.1).mono ?_
      rintro e w2 ⟨x, y, rfl, hr, k2⟩
      have K2 := hide (K1.out.trans k2)
      have P2 := hide (P1.out.grown k2.1 (by intro e; injection e with e; omega))
      obtain ⟨rfl, rfl⟩ := res_wq hr
      clear hr k2 hq0 hq1 p1 p2 p3 p4
      obtain ⟨p1, p2, p3, p4⟩ := P2.out
      have hq0 : ∀ v, (w2.setCell ⟨w.heap.size, 0, none⟩ v).cell? ⟨w.heap.size, 0, none⟩ = some v := fun v => World.cell?_setCell_same _ _ _ p1
      have hq1 : ∀ u v, ((w2.setCell ⟨w.heap.size, 0, none⟩ u).setCell ⟨w.heap.size, 1, none⟩ v).cell? ⟨w.heap.size, 1, none⟩ = some v := fun u v => World.cell?_setCell_same _ _ _ ((World.cell?_setCell_other _ _ _ _ (by intro e; injection e with _ e _; cases e)).trans p2)
      go_wp2_with fail
      refine bodyPost_ret (by simp [results, Yba.results17, go_sem, hq0, hq1]; try rfl) rfl ?_
      refine ⟨?_, K2.out.put _ _⟩
      rw [show kept N j = wq N (j - 1) by unfold kept; rw [if_neg (by rw [hcn.out]; decide), if_pos hfo.out]]
      rfl
  · go_wp2_with fail
    refine bodyPost_ret (by simp [results, Yba.results17, go_sem, hq0, hq1]; try rfl) rfl ?_
    refine ⟨?_, K1.out.put 0 false⟩
    rw [show kept N j = 0 from if_pos hcn.out]
    rfl
end Go.Proofs.Ybulkdzjs.A

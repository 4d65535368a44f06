/- The library's sort at float64, the elements being small whole numbers: the frame, cmp.Less, insertionSort. -/
import Derived.Test.YbulkdzjsA3
import Derived.Sort.WalkA
namespace Go.Proofs.Ybulkdzjs.A
open Go.RowKit Flt Go.Sort

/-- Small whole numbers. -/
abbrev Sv := {x : Int // Sm x}
instance : Inhabited Sv := ⟨⟨0, by unfold Sm; omega⟩⟩
def ltI (x y : Int) : Bool := decide (x < y)
def lts (x y : Sv) : Bool := ltI x.1 y.1
theorem swo : SWO lts := by
  refine ⟨fun x => ?_, fun x y z h1 h2 => ?_, fun x y z h1 h2 => ?_⟩
  · simp [lts, ltI]
  · simp only [lts, ltI, decide_eq_true_eq] at *; omega
  · simp only [lts, ltI, decide_eq_false_iff_not] at *; omega

/-- The row holds d, and nothing but it has turned since W. -/
def Fr (W : World) (blk N : Nat) (d : Array Sv) (w : World) : Prop :=
  d.size = N ∧ (∀ j, j < N → w.cell? ⟨blk, j, none⟩ = some (.float .f64 (F (d[j]!).1)) ∧ w.frozen? ⟨blk, j, none⟩ = false) ∧ W.grownBy w (some blk)
section
variable {W w w' : World} {blk N : Nat} {d : Array Sv}
theorem grown_refl (w : World) (row : Option Nat) : w.grownBy w row := ⟨rfl, rfl, rfl, Nat.le_refl _, fun _ _ _ => rfl⟩
theorem Fr.drew (h : Fr W blk N d w) : Fr W blk N d w.drew := ⟨h.1, h.2.1, ⟨h.2.2.os, h.2.2.tape, h.2.2.output, h.2.2.size, h.2.2.block⟩⟩
theorem Fr.drewN (h : Fr W blk N d w) (q : Nat) : Fr W blk N d (w.drewN q) := ⟨h.1, h.2.1, ⟨h.2.2.os, h.2.2.tape, h.2.2.output, h.2.2.size, h.2.2.block⟩⟩
theorem Fr.trans {V : World} {d0 : Array Sv} (k : Fr V blk N d0 W) (h : Fr W blk N d w) : Fr V blk N d w := ⟨h.1, h.2.1, grown_trans k.2.2 h.2.2⟩
theorem Fr.self (h : Fr W blk N d w) : Fr w blk N d w := ⟨h.1, h.2.1, grown_refl _ _⟩
theorem grown_setCell (W : World) (b o : Nat) (v : Value) : W.grownBy (W.setCell ⟨b, o, none⟩ v) (some b) :=
  ⟨rfl, rfl, rfl, by simp, fun k _ hk => by
    simp only [World.setCell, Array.getElem?_modify]
    rw [if_neg (fun e => hk (by rw [e]))]⟩
theorem Fr.setCell (h : Fr W blk N d w) (i : Nat) (x : Sv) : Fr W blk N (d.setIfInBounds i x) (w.setCell ⟨blk, i, none⟩ (.float .f64 (F x.1))) := by
  refine ⟨by rw [Array.size_setIfInBounds]; exact h.1, fun j hj => ⟨?_, ?_⟩, grown_trans h.2.2 ?_⟩
  · by_cases e : i = j
    · subst e
      rw [getElem!_set_same _ _ _ (by rw [h.1]; exact hj)]
      exact World.cell?_setCell_same _ _ _ (h.2.1 _ hj).1
    · rw [getElem!_set_other _ _ _ _ (fun k => e k.symm), World.cell?_setCell_other _ _ _ _ (by intro k; injection k with _ k2 _; exact e k2)]
      exact (h.2.1 j hj).1
  · rw [World.frozen?_setCell]; exact (h.2.1 j hj).2
  · exact grown_setCell _ _ _ _
theorem Fr.swap (h : Fr W blk N d w) (i j : Nat) : Fr W blk N (swp d i j) ((w.setCell ⟨blk, i, none⟩ (.float .f64 (F (d[j]!).1))).setCell ⟨blk, j, none⟩ (.float .f64 (F (d[i]!).1))) :=
  (h.setCell i d[j]!).setCell j d[i]!
end

theorem isNaN_any (x : Int) (hx : Sm x) (w : World) : Calls Yba.prog 68 #[.float .f64 (F x)] w fun e w' => e = .returned (.bool false) ∧ w' = w := by
  unfold Sm at hx
  have h1 : (FloatKind.f64.format.order (F x) (F x) != some .eq) = false := by
    rw [bne, show FloatKind.f64.format = Ieee.double from rfl, order_eq (val_F x (by omega)) (val_F x (by omega))]; simp
  go_enter Yba.func68, Yba.ntmps68
  go_wp2
  go_ret
  exact ⟨rfl, rfl⟩
/-- cmp.Less at float64. -/
theorem less_f (x y : Int) (hx : Sm x) (hy : Sm y) (w : World) : Calls Yba.prog 62 #[.float .f64 (F x), .float .f64 (F y)] w fun e w' => e = .returned (.bool (ltI x y)) ∧ w' = w := by
  have h1 : (FloatKind.f64.format.order (F x) (F y) == some .lt) = ltI x y := by
    unfold Sm at hx hy
    exact order_lt (val_F x (by omega)) (val_F y (by omega))
  go_enter Yba.func62, Yba.ntmps62
  go_wp2_with (first
      | (go_at_call 68; refine (isNaN_any _ (by assumption) _).mono ?_; rintro e w' ⟨rfl, rfl⟩)
      | fail)
  go_ret
  exact ⟨rfl, rfl⟩

/-- A store of a float. -/
theorem run_store_flt (P : Program) (w : World) (a : Addr) (m : Mode) (k : FloatKind) (b : Nat) : (store a (.float k b) m).run P w = stored P w a (.float k b) m := run_store P w a _ m rfl
attribute [local go_sem] run_store_flt
set_option maxRecDepth 100000 in
set_option maxHeartbeats 2000000 in
/-- slices.insertionSortOrdered at float64. -/
theorem insertionSort_f (blk N cap a b : Nat) (d : Array Sv) (W w : World) (hF : Fr W blk N d w) (hab : a ≤ b) (hb : b ≤ N) (hN : N ≤ 65536) :
    Calls Yba.prog 56 #[.slice (some ⟨blk, 0, none⟩) N cap, .int .i64 a, .int .i64 b] w fun e w' => e = .returned (.tuple #[]) ∧ Fr W blk N (Sort.insertionSort lts d a b) w' := by
  have HF : Hid (Fr W blk N d w) := hF
  clear hF
  go_enter Yba.func56, Yba.ntmps56
  go_wp2
  go_loopw [6] (fun vi wr => ∃ (i : Nat) (dk : Array Sv), vi = .int .i64 i ∧ a < i ∧ i ≤ b + 1 ∧ Hid (Fr W blk N dk wr ∧ insOuter lts a b i dk = insOuter lts a b (a + 1) d)) (fun vi _ => b + 1 - (intOf vi).toNat)
  case atStart => exact ⟨a + 1, d, by go_num, by omega, by omega, hide ⟨HF.out, rfl⟩⟩
  case round =>
    obtain ⟨i, dk, rfl, hai, hib, HO⟩ := hrel
    go_wp2
    · go_loopw [7] (fun vj wr2 => ∃ (j : Nat) (dj : Array Sv), vj = .int .i64 j ∧ a ≤ j ∧ j ≤ i ∧ Hid (Fr W blk N dj wr2 ∧ insInner lts a j dj = insInner lts a i dk)) (fun vj _ => (intOf vj).toNat)
      case atStart => exact ⟨i, dk, rfl, by omega, Nat.le_refl _, hide ⟨HO.out.1, rfl⟩⟩
      case round =>
        obtain ⟨j, dj, rfl, haj, hji, HI⟩ := hrel
        have hlt : i < b := by assumption
        obtain ⟨G, hG⟩ : ∃ G : Nat → Int, Hid (∀ t, G t = (dj[t]!).1) := ⟨fun t => (dj[t]!).1, fun _ => rfl⟩
        have hS : ∀ t, Sm (G t) := fun t => by rw [hG.out]; exact (dj[t]!).2
        have out : Hid ((j ≤ a ∨ lts dj[j]! dj[j - 1]! = false) → ∀ q, ∃ (i' : Nat) (dk' : Array Sv), Value.int .i64 ((i : Int) + 1) = .int .i64 i' ∧ a < i' ∧ i' ≤ b + 1 ∧ Hid (Fr W blk N dk' (wr.drewN q) ∧ insOuter lts a b i' dk' = insOuter lts a b (a + 1) d)) := fun hs q =>
          ⟨i + 1, dj, by go_num, by omega, by omega, hide ⟨HI.out.1.drewN q, by rw [← HO.out.2, insOuter_go _ _ _ _ _ hlt, ← HI.out.2, insInner_stop _ _ _ _ hs]⟩⟩
        go_wp2
        by_cases hja : a < j
        · have hj1 : (j : Int) < N := by omega
          have hj3 : (j : Int) - 1 < N := by omega
          have hj4 : (0 : Int) ≤ (j : Int) - 1 := by omega
          have c1 : wr.cell? ⟨blk, j, none⟩ = some (.float .f64 (F (G j))) := by rw [hG.out]; exact (HI.out.1.2.1 j (by omega)).1
          have c2 : wr.cell? ⟨blk, j - 1, none⟩ = some (.float .f64 (F (G (j - 1)))) := by rw [hG.out]; exact (HI.out.1.2.1 (j - 1) (by omega)).1
          have f1 := (HI.out.1.2.1 j (by omega)).2
          have f2 := (HI.out.1.2.1 (j - 1) (by omega)).2
          have c3 : ∀ q : Nat, ∃ v', ((wr.drewN q).setCell ⟨blk, j, none⟩ (.float .f64 (F (G (j - 1))))).cell? ⟨blk, j - 1, none⟩ = some v' := fun q => cell?_setCell_some c2
          go_quiet (first | (go_at_call 62; refine Calls.quiet_of_same (less_f _ _ (hS _) (hS _) _)))
          go_wp2
          · have hl : ltI (G j) (G (j - 1)) = true := by assumption
            go_region
            all_goals go_wp2
            go_roundw
            case rel =>
              refine ⟨j - 1, swp dj j (j - 1), by congr 1; omega, by omega, by omega, hide ⟨?_, ?_⟩⟩
              · have := (HI.out.1.drewN (nq + 1)).swap j (j - 1)
                rw [← hG.out, ← hG.out] at this
                exact this
              · rw [← HI.out.2, insInner_go lts a j dj hja (by unfold lts; rw [← hG.out, ← hG.out]; exact hl)]
            case measure => simp [intOf]; omega
          · have hl : ltI (G j) (G (j - 1)) = false := by assumption
            go_roundw
            case rel => exact out.out (Or.inr (by unfold lts; rw [← hG.out, ← hG.out]; exact hl)) nq
            case measure => simp [intOf]; omega
        · go_quiet (first | (go_at_call 62; refine Calls.quiet_of_same (less_f _ _ (hS _) (hS _) _)))
          go_wp2
          go_roundw
          case rel => exact out.out (Or.inl (by omega)) nq
          case measure => simp [intOf]; omega
    · have hge : ¬ i < b := by assumption
      go_end0
      exact ⟨rfl, by unfold Sort.insertionSort; rw [← HO.out.2, insOuter_stop _ _ _ _ _ hge]; exact HO.out.1⟩
end Go.Proofs.Ybulkdzjs.A

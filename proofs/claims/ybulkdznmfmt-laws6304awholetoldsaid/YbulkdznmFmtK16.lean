/- 6304A: both at a body of fewer than four bytes. -/
import Derived.Test.YbulkdznmFmtK15
import Derived.Test.YbulkdznmFmtK13
namespace Go.Proofs.YbulkdznmFmt.A
open Go.RowKit Go.Extern.Stop Go.Stop
attribute [local go_sem] run_mkmapA run_mkmapB

set_option maxRecDepth 100000 in
set_option maxHeartbeats 4000000 in
theorem model_short (B : Nat → UInt8) (N c : Nat) (a : Option Addr) (w : World) (hN4 : N < 4) :
    Calls Ybaf.prog 6 #[.slice a N c] w (MPost B (parse B N) w) := by
  have hN4' : decide ((N : Int) < 4) = true := by simp; omega
  go_enter Ybaf.func6, Ybaf.ntmps6
  go_wp2_with fail
  go_ret2
  exact ⟨_, false, rfl, Below.refl _ _, fun _ => by rw [parse, if_pos hN4], fun h => nomatch h⟩

set_option maxRecDepth 100000 in
set_option maxHeartbeats 4000000 in
theorem decode_short (B : Nat → UInt8) (N c T : Nat) (x : Value) (a : Option Addr) (w : World) (hN4 : N < 4) (gv : w.cell? ⟨1, 0, none⟩ = some (.iface T x)) :
    Calls Ybaf.prog 7 #[.slice a N c] w (DPost B (parse B N) w) := by
  have hR : Hid (parse B N = none) := hide (by rw [parse, if_pos hN4])
  rw [hR.out]
  have hb1 : Below w.heap.size w (w.alloc (.cells #[.slice a N c, .nilIface] 60)) := (Below.refl _ _).alloc (Nat.le_refl _) _
  have hb2 := hb1.alloc (o := .map #[] 0) (by simp)
  have hb3 := hb2.alloc (o := .map #[] 0) (by simp; omega)
  have hc0 : (((w.alloc (.cells #[.slice a N c, .nilIface] 60)).alloc (.map #[] 0)).alloc (.map #[] 0)).cell? ⟨w.heap.size, 0, none⟩ = some (.slice a N c) := by
    have h0 : (w.alloc (.cells #[.slice a N c, .nilIface] 60)).cell? ⟨w.heap.size, 0, none⟩ = some (.slice a N c) := (World.cell?_alloc_at (w := w) _ 60 _ 0 rfl).trans rfl
    exact (alloc_grown _ _ none).cell ((alloc_grown _ _ none).cell h0 (by simp)) (by simp)
  have hc1 : (((w.alloc (.cells #[.slice a N c, .nilIface] 60)).alloc (.map #[] 0)).alloc (.map #[] 0)).cell? ⟨w.heap.size, 1, none⟩ = some .nilIface := by
    have h0 : (w.alloc (.cells #[.slice a N c, .nilIface] 60)).cell? ⟨w.heap.size, 1, none⟩ = some .nilIface := (World.cell?_alloc_at (w := w) _ 60 _ 1 rfl).trans rfl
    exact (alloc_grown _ _ none).cell ((alloc_grown _ _ none).cell h0 (by simp)) (by simp)
  have hf1 : (((w.alloc (.cells #[.slice a N c, .nilIface] 60)).alloc (.map #[] 0)).alloc (.map #[] 0)).frozen? ⟨w.heap.size, 1, none⟩ = false := by
    have h0 : (w.alloc (.cells #[.slice a N c, .nilIface] 60)).frozen? ⟨w.heap.size, 1, none⟩ = false := World.frozen?_alloc_at (w := w) _ 60 _ 1 rfl
    have e1 := (alloc_grown (w.alloc (.cells #[.slice a N c, .nilIface] 60)) (.map #[] 0) none).block w.heap.size (by simp) (by simp)
    have e2 := (alloc_grown ((w.alloc (.cells #[.slice a N c, .nilIface] 60)).alloc (.map #[] 0)) (.map #[] 0) none).block w.heap.size (by simp; omega) (by simp)
    rw [World.frozen?_of_block e2, World.frozen?_of_block e1]
    exact h0
  have H := hide (uint32_bad w.heap.size N c T a x .nilIface _ hc0 hc1 hf1 (below_cell hb3 (lt_of gv) gv) (Or.inl ⟨rfl, hN4⟩))
  have HB := hide hb3
  have hlt : Hid (w.heap.size < (((w.alloc (.cells #[.slice a N c, .nilIface] 60)).alloc (.map #[] 0)).alloc (.map #[] 0)).heap.size) := hide (by simp; omega)
  have HC1 := hide hc1
  clear hc0 hc1 hf1 hb1 hb2 hb3 gv
  go_enter Ybaf.func7, Ybaf.ntmps7
  go_wp2_with fail
  generalize (((w.alloc (.cells #[.slice a N c, .nilIface] 60)).alloc (.map #[] 0)).alloc (.map #[] 0)) = wA at H HB hlt HC1 ⊢
  refine H.out.mono ?_
  rintro e wB ⟨rfl, hb⟩
  have hcell : wB.cell? ⟨w.heap.size, 1, none⟩ = some (.iface T x) := by
    rw [World.cell?_of_block (hb.block w.heap.size hlt.out)]
    exact World.cell?_setCell_same wA _ _ HC1.out
  have HBB : Hid (Below w.heap.size w wB) := hide (below_by (below_by HB.out (grown_setCell wA w.heap.size 1 (.iface T x)) (fun k e => by cases e; exact Nat.le_refl _) HB.out.size) (row := none) ⟨hb.os, hb.tape, hb.output, hb.size, fun k hk _ => hb.block k (by simpa using hk)⟩ (fun k e => nomatch e) (by simpa using HB.out.size))
  clear hb H HB HC1
  go_wp2_with fail
  go_loopg [18] 0 (fun _ v wr => v = .int .u32 0 ∧ Hid (wr = wB))
  case atStart => exact ⟨rfl, hide rfl⟩
  case round =>
    obtain ⟨rfl, hw⟩ := hrel
    rw [hw.out]
    go_wp2_with fail
    refine (new_f _ wB).mono ?_
    rintro e w8 ⟨⟨T8, x8, rfl⟩, hb8⟩
    have B8 := hide (HBB.out.trans (hb8.mono HBB.out.size))
    clear hb8
    go_wp2_with fail
    go_ret2
    exact ⟨B8.out, Or.inl ⟨rfl, _, _, rfl⟩⟩
end Go.Proofs.YbulkdznmFmt.A

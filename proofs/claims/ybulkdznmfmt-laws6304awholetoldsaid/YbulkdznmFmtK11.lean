/- 6304A: the decoder, whatever its state. -/
import Derived.Test.YbulkdznmFmtK3
import Derived.Test.YbulkdznmFmtK10
namespace Go.Proofs.YbulkdznmFmt.A
open Go.RowKit

set_option maxRecDepth 100000 in
set_option maxHeartbeats 2000000 in
theorem bytes_ok2 (db g o l c n : Nat) (w : World) (hn : n ≤ l) (hlc : l ≤ c) (hc : c ≤ 9223372036854775807)
    (d0 : w.cell? ⟨db, 0, none⟩ = some (.slice (some ⟨g, o, none⟩) l c)) (d1 : w.cell? ⟨db, 1, none⟩ = some .nilIface) (f0 : w.frozen? ⟨db, 0, none⟩ = false) :
    Calls Ybaf.prog 14 #[.pointer (some ⟨db, 0, none⟩), .int .i64 n] w fun e w' => e = .returned (.slice (some ⟨g, o, none⟩) n c) ∧ ∃ q, (n < c → q = o + n) ∧ w' = w.setCell ⟨db, 0, none⟩ (.slice (some ⟨g, q, none⟩) (l - n) (c - n)) := by
  have h1 : (n : Int) ≤ l := by omega
  have h2 : decide ((l : Int) < n) = false := by simp; omega
  have h3 : (l : Int) ≤ c := by omega
  have h4 : (c : Int) ≤ 9223372036854775807 := by omega
  go_enter Ybaf.func14, Ybaf.ntmps14
  go_wp2_with fail
  all_goals go_ret
  · exact ⟨rfl, _, rfl⟩
  · exact ⟨rfl, _, fun _ => rfl, rfl⟩

/-- The state of the decoder: where it stands, or that a read has failed. -/
structure Dec (w : World) (db g o N c T : Nat) (x : Value) (st : Option Nat) : Prop where
  good : ∀ p, st = some p → p ≤ N ∧ (∃ q, w.cell? ⟨db, 0, none⟩ = some (.slice (some ⟨g, q, none⟩) (N - p) (c - p)) ∧ (p < N → q = o + p)) ∧ w.cell? ⟨db, 1, none⟩ = some .nilIface
  bad : st = none → (∃ a l c', w.cell? ⟨db, 0, none⟩ = some (.slice a l c')) ∧ w.cell? ⟨db, 1, none⟩ = some (.iface T x)
  f0 : w.frozen? ⟨db, 0, none⟩ = false
  f1 : w.frozen? ⟨db, 1, none⟩ = false
def adv (N : Nat) (st : Option Nat) (n : Nat) : Option Nat := match st with | some p => if p + n ≤ N then some (p + n) else none | none => none
def rd (B : Nat → UInt8) (N : Nat) (st : Option Nat) (n : Nat) : Nat → UInt8 := match st with | some p => if p + n ≤ N then fr B p else fun _ => 0 | none => fun _ => 0

section
variable {w w' : World} {db g o N c T : Nat} {x : Value} {st : Option Nat}
theorem Dec.lt (h : Dec w db g o N c T x st) : db < w.heap.size := by
  cases st with
  | none => exact lt_of (h.bad rfl).2
  | some p => exact lt_of (h.good p rfl).2.2
theorem Dec.of (h : Dec w db g o N c T x st) (e : w'.heap[db]? = w.heap[db]?) : Dec w' db g o N c T x st := by
  have hc : ∀ k, w'.cell? ⟨db, k, none⟩ = w.cell? ⟨db, k, none⟩ := fun k => World.cell?_of_block e
  have hf : ∀ k, w'.frozen? ⟨db, k, none⟩ = w.frozen? ⟨db, k, none⟩ := fun k => World.frozen?_of_block e
  refine ⟨fun p hp => ?_, fun hp => ?_, (hf 0).trans h.f0, (hf 1).trans h.f1⟩
  · obtain ⟨h1, ⟨q, h2, h3⟩, h4⟩ := h.good p hp
    exact ⟨h1, ⟨q, (hc 0).trans h2, h3⟩, (hc 1).trans h4⟩
  · obtain ⟨⟨a, l, c', h2⟩, h4⟩ := h.bad hp
    exact ⟨⟨a, l, c', (hc 0).trans h2⟩, (hc 1).trans h4⟩
theorem Dec.grown {row : Option Nat} (h : Dec w db g o N c T x st) (hg : w.grownBy w' row) (hb : some db ≠ row) : Dec w' db g o N c T x st := h.of (hg.block db h.lt hb)
theorem Dec.below (h : Dec w db g o N c T x st) (hb : Below w.heap.size w w') : Dec w' db g o N c T x st := h.of (hb.block db h.lt)
end
theorem By.grown {w w' : World} {b o n : Nat} {f : Nat → UInt8} {row : Option Nat} (h : By w b o n f) (hg : w.grownBy w' row) (hb : some b ≠ row) : By w' b o n f := fun m hm =>
  (World.cell?_of_block (hg.block b (lt_of (h m hm)) hb)).trans (h m hm)
theorem frozen_set (w : World) (a : Addr) (v : Value) (b : Addr) : (w.setCell a v).frozen? b = w.frozen? b := World.frozen?_setCell w _ _ _

/-- decoder.bytes, whatever the decoder's state. -/
theorem bytes_u (B : Nat → UInt8) (db g o N c n T : Nat) (x : Value) (st : Option Nat) (w : World) (hn : n ≤ 1000) (hNc : N ≤ c) (hc : c ≤ 9223372036854775807) (hdg : g ≠ db)
    (D : Dec w db g o N c T x st) (hB : By w g o N B) (gv : w.cell? ⟨1, 0, none⟩ = some (.iface T x)) :
    Calls Ybaf.prog 14 #[.pointer (some ⟨db, 0, none⟩), .int .i64 n] w fun e w' => ∃ v, e = .returned v ∧ ∃ g' q' c', v = .slice (some ⟨g', q', none⟩) n c' ∧ g' ≠ db ∧ By w' g' q' n (rd B N st n) ∧ Dec w' db g o N c T x (adv N st n) ∧ w.grownBy w' (some db) := by
  have key : ∀ (a : Option Addr) (l c' : Nat) (e1 : Value), w.cell? ⟨db, 0, none⟩ = some (.slice a l c') → w.cell? ⟨db, 1, none⟩ = some e1 → ((e1 = .nilIface ∧ l < n) ∨ ∃ y, e1 = .iface T y) → adv N st n = none → rd B N st n = (fun _ => 0) →
      Calls Ybaf.prog 14 #[.pointer (some ⟨db, 0, none⟩), .int .i64 n] w fun e w' => ∃ v, e = .returned v ∧ ∃ g' q' c', v = .slice (some ⟨g', q', none⟩) n c' ∧ g' ≠ db ∧ By w' g' q' n (rd B N st n) ∧ Dec w' db g o N c T x (adv N st n) ∧ w.grownBy w' (some db) := by
    intro a l c' e1 d0 d1 he ha hr
    refine (bytes_bad db l c' n T a x e1 w hn d0 d1 D.f1 gv he).mono ?_
    rintro e w' ⟨rfl, hR, hb⟩
    have hlt := D.lt
    have hgr : w.grownBy w' (some db) := grown_trans (grown_setCell w db 1 _) (below_grown (by simpa using hb) _)
    refine ⟨_, rfl, _, _, _, rfl, by omega, ?_, ?_, hgr⟩
    · rw [hr]
      intro m hm
      rw [Nat.zero_add]
      exact (hR m hm).1
    · rw [ha]
      have hc0 : w'.cell? ⟨db, 0, none⟩ = some (.slice a l c') := by
        rw [World.cell?_of_block (hb.block db (by simpa using hlt)), World.cell?_setCell_other _ _ _ _ (by simp)]
        exact d0
      have hc1 : w'.cell? ⟨db, 1, none⟩ = some (.iface T x) := by
        rw [World.cell?_of_block (hb.block db (by simpa using hlt))]
        exact World.cell?_setCell_same w _ _ d1
      refine ⟨fun p hp => (by cases hp), fun _ => ⟨⟨_, _, _, hc0⟩, hc1⟩, ?_, ?_⟩
      · rw [World.frozen?_of_block (hb.block db (by simpa using hlt)), frozen_set]; exact D.f0
      · rw [World.frozen?_of_block (hb.block db (by simpa using hlt)), frozen_set]; exact D.f1
  cases st with
  | none =>
    obtain ⟨⟨a, l, c', d0⟩, d1⟩ := D.bad rfl
    exact key a l c' _ d0 d1 (Or.inr ⟨_, rfl⟩) rfl rfl
  | some p =>
    obtain ⟨hp, ⟨q, d0, hq⟩, d1⟩ := D.good p rfl
    by_cases hpn : p + n ≤ N
    · refine (bytes_ok2 db g q (N - p) (c - p) n w (by omega) (by omega) (by omega) d0 d1 D.f0).mono ?_
      rintro e w' ⟨rfl, q', hq', rfl⟩
      refine ⟨_, rfl, _, _, _, rfl, hdg, ?_, ?_, grown_setCell w db 0 _⟩
      · intro m hm
        rw [World.cell?_setCell_other _ _ _ _ (by intro e'; injection e' with e1 _; exact hdg e1.symm)]
        rw [hq (by omega), rd, if_pos hpn, Nat.add_assoc]
        exact hB (p + m) (by omega)
      · have ha : adv N (some p) n = some (p + n) := by rw [adv, if_pos hpn]
        rw [ha]
        refine ⟨fun p' hp' => ?_, fun h => (by cases h), by rw [frozen_set]; exact D.f0, by rw [frozen_set]; exact D.f1⟩
        cases hp'
        refine ⟨hpn, ⟨q', ?_, fun h => ?_⟩, ?_⟩
        · rw [World.cell?_setCell_same w _ _ d0, Nat.sub_sub, Nat.sub_sub]
        · rw [hq' (by omega)]
          rw [hq (by omega)]
          omega
        · rw [World.cell?_setCell_other _ _ _ _ (by simp)]; exact d1
    · exact key _ _ _ _ d0 d1 (Or.inl ⟨rfl, by omega⟩) (by rw [adv, if_neg hpn]) (by rw [rd, if_neg hpn])

set_option maxRecDepth 100000 in
set_option maxHeartbeats 2000000 in
theorem byte_u (B : Nat → UInt8) (db g o N c T : Nat) (x : Value) (st : Option Nat) (w : World) (hNc : N ≤ c) (hc : c ≤ 9223372036854775807) (hdg : g ≠ db)
    (D : Dec w db g o N c T x st) (hB : By w g o N B) (gv : w.cell? ⟨1, 0, none⟩ = some (.iface T x)) :
    Calls Ybaf.prog 15 #[.pointer (some ⟨db, 0, none⟩)] w fun e w' => e = .returned (.int .u8 (rd B N st 1 0).toNat) ∧ Dec w' db g o N c T x (adv N st 1) ∧ w.grownBy w' (some db) := by
  have hb := hide (bytes_u B db g o N c 1 T x st w (by omega) hNc hc hdg D hB gv)
  clear D hB gv
  go_enter Ybaf.func15, Ybaf.ntmps15
  go_wp2_with fail
  refine hb.out.mono ?_
  rintro e w' ⟨v, rfl, g', q', c', rfl, hg', hR, hD, hG⟩
  have HD := hide hD
  have HG := hide hG
  have cz := hR 0 (by omega)
  rw [Nat.add_zero] at cz
  clear hR hb hD hG
  obtain ⟨r, hr⟩ : ∃ r, Hid ((rd B N st 1 0).toNat = r) := ⟨_, hide rfl⟩
  rw [hr.out] at cz
  go_wp2_with fail
  go_ret
  exact ⟨by rw [hr.out]; rfl, HD.out, HG.out⟩

set_option maxRecDepth 100000 in
set_option maxHeartbeats 2000000 in
theorem uint32_u (B : Nat → UInt8) (db g o N c T : Nat) (x : Value) (st : Option Nat) (w : World) (hNc : N ≤ c) (hc : c ≤ 9223372036854775807) (hdg : g ≠ db)
    (D : Dec w db g o N c T x st) (hB : By w g o N B) (gv : w.cell? ⟨1, 0, none⟩ = some (.iface T x)) :
    Calls Ybaf.prog 13 #[.pointer (some ⟨db, 0, none⟩)] w fun e w' => e = .returned (.int .u32 (cn (rd B N st 4) 0)) ∧ Dec w' db g o N c T x (adv N st 4) ∧ w.grownBy w' (some db) := by
  have hgd : w.grownBy w.drew (some db) := ⟨rfl, rfl, rfl, Nat.le_refl _, fun _ _ _ => rfl⟩
  have hb := hide (bytes_u B db g o N c 4 T x st w.drew (by omega) hNc hc hdg (D.of rfl) hB gv)
  have HG0 := hide hgd
  clear D hB gv hgd
  have hu : Hid (∀ g' q' c' w1, By w1 g' q' 4 (rd B N st 4) → Calls Ybaf.prog 20 #[.agg #[], .slice (some ⟨g', q', none⟩) 4 c'] w1 fun e w' => e = .returned (.int .u32 (cn (rd B N st 4) 0)) ∧ Below w1.heap.size w1 w') :=
    hide (fun g' q' c' w1 h => be_f g' q' 4 c' _ _ _ _ w1 (Nat.le_refl _) (h 0 (by omega)) (h 1 (by omega)) (h 2 (by omega)) (h 3 (by omega)))
  go_enter Ybaf.func13, Ybaf.ntmps13
  go_wp2_with fail
  go_region_with (first
    | (go_at_call 14; refine hb.out.mono ?_; rintro e w1 ⟨v, rfl, g', q', c', rfl, hg', hR, hD, hG⟩; have HR := hide hR; have HD := hide hD; have HG := hide hG; clear hR hD hG)
    | (go_at_call 20; refine (hu.out _ _ _ _ HR.out).mono ?_; rintro e w2 ⟨rfl, hb2⟩; have HB := hide hb2; clear hb2))
  all_goals go_wp2_with fail
  all_goals go_ret
  all_goals refine ⟨rfl, HD.out.below HB.out, grown_trans HG0.out (grown_trans HG.out (below_grown HB.out _))⟩
end Go.Proofs.YbulkdznmFmt.A

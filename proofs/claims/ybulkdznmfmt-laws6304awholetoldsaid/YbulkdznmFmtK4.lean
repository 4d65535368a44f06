/- 6304A: scope.find. -/
import Derived.Test.YbulkdznmFmtK0
import Derived.Stop.BytesEq
namespace Go.Proofs.YbulkdznmFmt.A
open Go.RowKit

/-- Eight bytes as a value. -/
def ar (f : Nat → UInt8) : Value := .agg #[.int .u8 (f 0).toNat, .int .u8 (f 1).toNat, .int .u8 (f 2).toNat, .int .u8 (f 3).toNat, .int .u8 (f 4).toNat, .int .u8 (f 5).toNat, .int .u8 (f 6).toNat, .int .u8 (f 7).toNat]
/-- A row of bytes lies in a block from o on. -/
def By (w : World) (b o n : Nat) (f : Nat → UInt8) : Prop := ∀ m, m < n → w.cell? ⟨b, o + m, none⟩ = some (.int .u8 (f m).toNat)
theorem By.below {w w' : World} {b o n : Nat} {f : Nat → UInt8} (h : By w b o n f) (hb : Below w.heap.size w w') : By w' b o n f := fun m hm => bcell hb (h m hm)

theorem Ybaf.info5' : (Ybaf.prog.info? 5).map (fun i => (i.zero, i.size, i.bytes)) = some (some (.int .u8 0), 1, 1) := by kernel_rfl
theorem size5 (w : World) : (sizeOf 5).run Ybaf.prog w = .ok 1 w := by
  obtain ⟨i5, hi5, h51, h52, h53⟩ := info_parts Ybaf.info5'
  simp [sizeOf, typeInfo, hi5, h52]
/-- The first n bytes. -/
def bl (f : Nat → UInt8) : List UInt8 := [f 0, f 1, f 2, f 3, f 4, f 5, f 6, f 7]
theorem eql40 (f g : Nat → UInt8) (w : World) : (binOp .eql 40 (ar f) (ar g)).run Ybaf.prog w = .ok (.bool (bl f == bl g)) w :=
  run_eql_bytes w 40 5 8 Ybaf.underlying40 Ybaf.underlying5 size5 (bl f) (bl g) rfl rfl
theorem bl_ne {f g : Nat → UInt8} (h : (bl f == bl g) = false) : ∃ m, m < 8 ∧ f m ≠ g m := by
  rw [beq_eq_false_iff_ne] at h
  apply Classical.byContradiction
  intro hn
  apply h
  have key : ∀ m, m < 8 → f m = g m := fun m hm => Classical.byContradiction (fun e => hn ⟨m, hm, e⟩)
  simp only [bl, key 0 (by omega), key 1 (by omega), key 2 (by omega), key 3 (by omega), key 4 (by omega), key 5 (by omega), key 6 (by omega), key 7 (by omega)]
theorem bl_eq {f g : Nat → UInt8} (h : (bl f == bl g) = true) : ∀ m, m < 8 → f m = g m := by
  rw [beq_iff_eq] at h
  simp only [bl, List.cons.injEq, and_true] at h
  obtain ⟨h0, h1, h2, h3, h4, h5, h6, h7⟩ := h
  intro m hm
  rcases m with _ | _ | _ | _ | _ | _ | _ | _ | m <;> first | assumption | omega

set_option maxRecDepth 100000 in
set_option maxHeartbeats 2000000 in
theorem find_f (sb kb n c : Nat) (id : Nat → UInt8) (ids : Nat → Nat → UInt8) (w : World) (hn : n ≤ 1000000)
    (s8 : w.cell? ⟨sb, 8, none⟩ = some (.slice (some ⟨kb, 0, none⟩) n c)) (hk : ∀ i, i < n → By w kb (i * 40) 8 (ids i)) :
    Calls Ybaf.prog 18 #[.pointer (some ⟨sb, 0, none⟩), ar id] w fun e w' => ∃ p, e = .returned (.pointer p) ∧ (p = none ↔ ∀ i, i < n → ∃ m, m < 8 ∧ ids i m ≠ id m) ∧ Below w.heap.size w w' := by
  have HK := hide hk
  clear hk
  unfold ar
  go_enter Ybaf.func18, Ybaf.ntmps18
  go_upto_region 1 with fail
  have hbl : Below w.heap.size w (w.alloc (.cells #[.int .u8 (id 0).toNat, .int .u8 (id 1).toNat, .int .u8 (id 2).toNat, .int .u8 (id 3).toNat, .int .u8 (id 4).toNat, .int .u8 (id 5).toNat, .int .u8 (id 6).toNat, .int .u8 (id 7).toNat] 40)) := (Below.refl _ _).alloc (Nat.le_refl _) _
  have s8' := bcell hbl s8
  have HI : Hid (By (w.alloc (.cells #[.int .u8 (id 0).toNat, .int .u8 (id 1).toNat, .int .u8 (id 2).toNat, .int .u8 (id 3).toNat, .int .u8 (id 4).toNat, .int .u8 (id 5).toNat, .int .u8 (id 6).toNat, .int .u8 (id 7).toNat] 40)) w.heap.size 0 8 id) := hide (fun m hm => by
    rw [Nat.zero_add]
    refine (World.cell?_alloc_at (w := w) _ 40 _ m rfl).trans ?_
    rcases m with _ | _ | _ | _ | _ | _ | _ | _ | m <;> first | rfl | omega)
  have HK2 := hide (fun i hi => (HK.out i hi).below hbl)
  have HB := hide hbl
  clear hbl s8 HK
  generalize w.alloc (.cells #[.int .u8 (id 0).toNat, .int .u8 (id 1).toNat, .int .u8 (id 2).toNat, .int .u8 (id 3).toNat, .int .u8 (id 4).toNat, .int .u8 (id 5).toNat, .int .u8 (id 6).toNat, .int .u8 (id 7).toNat] 40) = wv at s8' HI HK2 HB ⊢
  obtain ⟨ib, hib⟩ : ∃ c, Hid (w.heap.size = c) := ⟨_, hide rfl⟩
  rw [hib.out] at HI ⊢
  go_wp2_with fail
  go_loopw [11] (fun v wr => ∃ k : Nat, v = .int .i64 k ∧ k ≤ n ∧ (∃ q, wr = wv.drewN q) ∧ Hid (∀ i, i < k → ∃ m, m < 8 ∧ ids i m ≠ id m)) (fun v _ => n - (intOf v).toNat)
  case atStart => exact ⟨0, rfl, Nat.zero_le _, ⟨0, rfl⟩, hide (fun i h => absurd h (Nat.not_lt_zero i))⟩
  case round =>
    obtain ⟨k, rfl, hkn, ⟨q, hq⟩, HM⟩ := hrel
    by_cases hlt : k < n
    · have hlt' : (k : Int) < n := by omega
      have c0 := HI.out 0 (by omega)
      have c1 := HI.out 1 (by omega)
      have c2 := HI.out 2 (by omega)
      have c3 := HI.out 3 (by omega)
      have c4 := HI.out 4 (by omega)
      have c5 := HI.out 5 (by omega)
      have c6 := HI.out 6 (by omega)
      have c7 := HI.out 7 (by omega)
      have e0 := HK2.out k hlt 0 (by omega)
      have e1 := HK2.out k hlt 1 (by omega)
      have e2 := HK2.out k hlt 2 (by omega)
      have e3 := HK2.out k hlt 3 (by omega)
      have e4 := HK2.out k hlt 4 (by omega)
      have e5 := HK2.out k hlt 5 (by omega)
      have e6 := HK2.out k hlt 6 (by omega)
      have e7 := HK2.out k hlt 7 (by omega)
      simp only [Nat.zero_add, Nat.add_zero] at c0 c1 c2 c3 c4 c5 c6 c7 e0
      have heq := eql40 (ids k) id
      unfold ar at heq
      obtain ⟨r, hr⟩ : ∃ r, Hid ((bl (ids k) == bl id) = r) := ⟨_, hide rfl⟩
      rw [hr.out] at heq
      rw [hq]
      go_wp2_with fail
      go_quiet (fail)
      cases r
      · go_wp2_with fail
        go_roundw
        case rel =>
          refine ⟨k + 1, by go_num, by omega, ⟨q + nq, rfl⟩, hide (fun i hi => ?_)⟩
          rcases Nat.lt_or_ge i k with h' | h'
          · exact HM.out i h'
          · obtain rfl : i = k := by omega
            exact bl_ne hr.out
        case measure => simp [intOf]; omega
      · go_wp2_with fail
        go_ret
        refine ⟨_, rfl, ⟨(fun h => by cases h), fun h => ?_⟩, below_drewN HB.out _⟩
        obtain ⟨m, hm, hne⟩ := h k hlt
        exact absurd (bl_eq hr.out m hm) hne
    · have hlt' : ¬ (k : Int) < n := by omega
      obtain rfl : k = n := by omega
      rw [hq]
      go_wp2_with fail
      go_ret
      exact ⟨_, rfl, ⟨fun _ => HM.out, fun _ => rfl⟩, below_drewN HB.out _⟩
end Go.Proofs.YbulkdznmFmt.A

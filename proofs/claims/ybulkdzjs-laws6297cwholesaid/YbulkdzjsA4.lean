import Derived.Test.YbulkdzjsA3
import Derived.Lib.SliceRun
namespace Go.Proofs.Ybulkdzjs.A
open Go.RowKit Flt

theorem Yba.info26 : (Yba.prog.info? 26).map (fun i => (i.zero, i.size, i.bytes)) = some (some (.float .f64 0), 1, 8) := by kernel_rfl

theorem vals_news {X : Nat → Int} {vb m : Nat} {w : World} (h : Vals X vb m w) : ∀ (j : Nat) (u : Value), ((List.range m).map (fun i => Value.float .f64 (F (X i))))[j]? = some u → w.cell? ((⟨vb, 0, none⟩ : Addr).add j) = some u := by
  intro j u hu
  rw [List.getElem?_map] at hu
  by_cases hj : j < m
  · rw [List.getElem?_range hj] at hu
    simp at hu
    rw [Addr.add_lit, Nat.zero_add, h j hj, hu]
  · rw [List.getElem?_eq_none (by simpa using hj)] at hu
    simp at hu

theorem drewN_add {w wr : World} {q n : Nat} (h : wr = w.drewN q) : wr.drewN n = w.drewN (q + n) := by
  subst h
  unfold World.drewN
  simp [Nat.add_assoc]

set_option maxHeartbeats 1000000 in
/-- slices.Clone of the values. -/
theorem cloneF_any (vb m : Nat) (X : Nat → Int) (w : World) (hm0 : 1 ≤ m) (hm : m ≤ 65537) (hV : Vals X vb m w) :
    Calls Yba.prog 7 #[.slice (some ⟨vb, 0, none⟩) m m] w fun e w' => ∃ g c, e = .returned (.slice (some ⟨g, 0, none⟩) m c) ∧ w.heap.size ≤ g ∧ Vals X g m w' ∧ Below w.heap.size w w' := by
  obtain ⟨i0, hi, hz0, hz1, hz2⟩ := info_parts Yba.info26
  have heq := fun W => Lib.run_eql_slice_nil (P := Yba.prog) W 24 26 (some ⟨vb, 0, none⟩) m m 0 0 Yba.underlying24
  have HV := hide hV
  clear hV
  go_enter Yba.func7, Yba.ntmps7
  go_wp2_with (at_builtin; refine wpList_append_own _ rfl (.tmp 5) (.tmp 6) 24 rfl w.heap.size 26 i0 (.float .f64 0) 1 8 Yba.underlying24 hi hz0 hz1 hz2 rfl (by decide) _ 0 _ rfl (World.ownsRow_lit w #[] 0 (Nat.le_refl _) (by unfold maxLen; omega) rfl) ⟨vb, 0, none⟩ m m ((List.range m).map (fun i => Value.float .f64 (F (X i)))) rfl (by simp) ?c1 ?c2 ?c3 ?c4 ?c5 ?_)
  case c1 => exact vals_news ((unhide HV).below ((Below.refl _ _).alloc (Nat.le_refl _) _))
  case c2 => intro u hu; simp at hu; obtain ⟨i, _, rfl⟩ := hu; rfl
  case c3 => unfold maxLen; omega
  case c4 => omega
  case c5 => simp
  intro v' w1 hown hgrow hnil
  have hb : Below w.heap.size w w1 := ((Below.refl _ _).alloc (Nat.le_refl _) _).grown hgrow (by simp) (fun k hk => by cases hk; exact Nat.le_refl _)
  obtain ⟨g, c, hv, hg, hvals⟩ : ∃ g c, v' = .slice (some ⟨g, 0, none⟩) m c ∧ w.heap.size ≤ g ∧ Vals X g m w1 := by
    rcases hown.2 with ⟨e, _⟩ | ⟨g, cp, cur, e, hbase, _⟩
    · exact absurd e hnil
    · refine ⟨g, cp, e, hbase, fun i hi => ?_⟩
      rw [e] at hown
      rw [hown.cellAt i (by omega), List.getElem?_map, List.getElem?_range hi]
      rfl
  rw [hv]
  have HB := hide hb
  have HVs := hide hvals
  clear hown hgrow hnil hb hvals
  go_wp2
  go_ret
  exact ⟨g, c, rfl, hg, unhide HVs, unhide HB⟩

set_option maxHeartbeats 1000000 in
/-- slices.Equal of two copies of the values. -/
theorem equalF_any (vb g m c : Nat) (X : Nat → Int) (w : World) (hm : m ≤ 65537) (hX : ∀ i, Sm (X i)) (hV : Vals X vb m w) (hG : Vals X g m w) :
    Calls Yba.prog 9 #[.slice (some ⟨vb, 0, none⟩) m m, .slice (some ⟨g, 0, none⟩) m c] w fun e w' => e = .returned (.bool true) ∧ Below w.heap.size w w' := by
  have hm' : (m : Int) ≤ 65537 := by omega
  have HV := hide hV
  have HG := hide hG
  have HX := hide hX
  clear hV hG hX
  go_enter Yba.func9, Yba.ntmps9
  go_wp2
  go_loopw [13] (fun i wr => ∃ (k q : Nat), i = .int .i64 k ∧ k ≤ m ∧ Hid (wr = w.drewN q)) (fun i _ => m - (intOf i).toNat)
  case atStart => exact ⟨0, 0, rfl, Nat.zero_le _, rfl⟩
  case round =>
    obtain ⟨k, q, rfl, hk, hw⟩ := hrel
    have hb : Hid (Below w.heap.size w wr) := hide (by rw [unhide hw]; exact below_drewN (Below.refl _ _) _)
    by_cases hlt : k < m
    · have c1 : wr.cell? ⟨vb, k, none⟩ = some (.float .f64 (F (X k))) := (unhide HV).below (unhide hb) k hlt
      have c2 : wr.cell? ⟨g, k, none⟩ = some (.float .f64 (F (X k))) := (unhide HG).below (unhide hb) k hlt
      have hkm : (k : Int) < m := by omega
      have hne : (FloatKind.f64.format.order (F (X k)) (F (X k)) != some .eq) = false := by
        obtain ⟨b1, b2⟩ := unhide HX k
        have vf := val_F (X k) (by omega)
        have e := order_eq vf vf
        rw [bne, show FloatKind.f64.format = Ieee.double from rfl, e]; simp
      go_wp2
      go_quiet (fail)
      go_wp2
      go_roundw
      case rel => exact ⟨k + 1, q + nq, by go_num, by omega, drewN_add (unhide hw)⟩
      case measure => simp [intOf]; omega
    · go_wp2
      go_ret
      exact ⟨rfl, unhide hb⟩
end Go.Proofs.Ybulkdzjs.A

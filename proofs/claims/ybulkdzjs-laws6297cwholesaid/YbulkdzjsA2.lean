import Derived.Test.YbulkdzjsA1
namespace Go.Proofs.Ybulkdzjs.A
open Go.RowKit Flt

/-- A value that the law draws. -/
def Sm (x : Int) : Prop := -4294967296 < x ∧ x < 4294967296

/-- Does a rank before b? By the exact distance, the lower sender first on a tie. -/
def before (x y v : Int) (a b : Int) : Bool := decide (adist x v < adist y v) || (decide (adist x v = adist y v) && decide (a < b))

set_option maxHeartbeats 1000000 in
theorem tied_any (vb m : Nat) (x y v a b : Int) (w : World) (ha : 1 ≤ a) (ham : a ≤ m) (hb : 1 ≤ b) (hbm : b ≤ m) (hm : m ≤ 65537) (hx : Sm x) (hy : Sm y) (hv : Sm v)
    (hca : w.cell? ⟨vb, a.toNat - 1, none⟩ = some (.float .f64 (F x))) (hcb : w.cell? ⟨vb, b.toNat - 1, none⟩ = some (.float .f64 (F y))) :
    Calls Yba.prog 31 #[.agg #[.slice (some ⟨vb, 0, none⟩) m m, .float .f64 (F v)], .int .i64 a, .int .i64 b] w fun e w' => e = .returned (.bool (decide (a < b))) ∧ Below w.heap.size w w' := by
  have hbk := World.block_lt_of_cell? _ _ hca
  have hca' : ∀ o, (w.alloc o).cell? ⟨vb, a.toNat - 1, none⟩ = some (.float .f64 (F x)) := fun o => (World.cell?_alloc_past _ _ _ hbk).trans hca
  have hcb' : ∀ o, (w.alloc o).cell? ⟨vb, b.toNat - 1, none⟩ = some (.float .f64 (F y)) := fun o => (World.cell?_alloc_past _ _ _ hbk).trans hcb
  have hwa : IntKind.i64.wrap (a - 1) = a - 1 := by rw [IntKind.wrap_i64]; omega
  have ha0 : 0 ≤ a - 1 := by omega
  have ha1 : a - 1 < (m : Int) := by omega
  have hwb : IntKind.i64.wrap (b - 1) = b - 1 := by rw [IntKind.wrap_i64]; omega
  have hb0 : 0 ≤ b - 1 := by omega
  have hb1 : b - 1 < (m : Int) := by omega
  unfold Sm at hx hy hv
  have heq : (FloatKind.f64.format.order (F x) (F y) == some .eq) = decide (x = y) := order_eq (val_F x (by omega)) (val_F y (by omega))
  obtain ⟨hd, vd, ld⟩ := dif_ok x v hx hv
  have hsub := fun W : World => run_float_arith (P := Yba.prog) W .sub 26 .f64 _ _ _ hd
  by_cases hxy : x = y
  · have heq' : (FloatKind.f64.format.order (F x) (F y) == some .eq) = true := heq.trans (by simpa using hxy)
    clear heq hxy hd
    go_enter Yba.func31, Yba.ntmps31
    go_wp2
    go_quiet (fail)
    go_wp2
    go_ret
    exact ⟨rfl, below_drewN ((Below.refl _ _).alloc (Nat.le_refl _) _) _⟩
  · have heq' : (FloatKind.f64.format.order (F x) (F y) == some .eq) = false := heq.trans (by simpa using hxy)
    clear heq hxy hd
    go_enter Yba.func31, Yba.ntmps31
    go_wp2
    go_quiet (fail)
    go_wp2_with (first
      | (go_at_call 45; refine (isInf_any _ _ _ ld vd (by omega)).mono ?_; rintro e w' ⟨rfl, rfl⟩)
      | fail)
    refine (roundedOff_any x v _ hx hv).mono ?_
    rintro e w1 ⟨⟨r1, rfl, v1, l1⟩, rfl⟩
    go_wp2_with fail
    refine (roundedOff_any y v _ hy hv).mono ?_
    rintro e w2 ⟨⟨r2, rfl, v2, l2⟩, rfl⟩
    have h12 : (FloatKind.f64.format.order r1 r2 != some .eq) = false := by
      have e := order_eq v1 v2
      rw [bne, show FloatKind.f64.format = Ieee.double from rfl, e]; rfl
    clear v1 v2
    go_wp2_with fail
    go_ret
    exact ⟨rfl, below_drewN ((Below.refl _ _).alloc (Nat.le_refl _) _) _⟩

set_option maxHeartbeats 1000000 in
theorem beforeAt_any (vb m : Nat) (x y v a b : Int) (w : World) (ha : 1 ≤ a) (ham : a ≤ m) (hb : 1 ≤ b) (hbm : b ≤ m) (hm : m ≤ 65537) (hx : Sm x) (hy : Sm y) (hv : Sm v)
    (hca : w.cell? ⟨vb, a.toNat - 1, none⟩ = some (.float .f64 (F x))) (hcb : w.cell? ⟨vb, b.toNat - 1, none⟩ = some (.float .f64 (F y))) :
    Calls Yba.prog 21 #[.agg #[.slice (some ⟨vb, 0, none⟩) m m, .float .f64 (F v)], .int .i64 a, .float .f64 (dist x v), .int .i64 b, .float .f64 (dist y v)] w fun e w' => e = .returned (.bool (before x y v a b)) ∧ Below w.heap.size w w' := by
  have hbk := World.block_lt_of_cell? _ _ hca
  have hne : (FloatKind.f64.format.order (dist x v) (dist y v) != some .eq) = !decide (adist x v = adist y v) := by
    rw [bne]; congr 1; exact order_eq (dist_ok x v hx hv) (dist_ok y v hy hv)
  have hlt : (FloatKind.f64.format.order (dist x v) (dist y v) == some .lt) = decide (adist x v < adist y v) := order_lt (dist_ok x v hx hv) (dist_ok y v hy hv)
  have hz : (FloatKind.f64.format.order (dist x v) 0 == some .eq) = decide (adist x v = 0) := order_eq (dist_ok x v hx hv) val_zero
  by_cases he : adist x v = adist y v
  · have hne' : (FloatKind.f64.format.order (dist x v) (dist y v) != some .eq) = false := hne.trans (by simpa using he)
    have HB : Hid (before x y v a b = decide (a < b)) := by
      show before x y v a b = _
      unfold before; rw [he]; simp
    clear hne hlt
    by_cases h0 : adist x v = 0
    · have hz' : (FloatKind.f64.format.order (dist x v) 0 == some .eq) = true := hz.trans (by simpa using h0)
      clear hz he h0
      go_enter Yba.func21, Yba.ntmps21
      go_wp2
      go_ret
      exact ⟨ret_bool HB.out.symm, (Below.refl _ _).alloc (Nat.le_refl _) _⟩
    · have hz' : (FloatKind.f64.format.order (dist x v) 0 == some .eq) = false := hz.trans (by simpa using h0)
      clear hz he h0
      go_enter Yba.func21, Yba.ntmps21
      go_wp2_with fail
      refine (tied_any vb m x y v a b _ ha ham hb hbm hm hx hy hv ((World.cell?_alloc_past _ _ _ hbk).trans hca) ((World.cell?_alloc_past _ _ _ hbk).trans hcb)).mono ?_
      rintro e w1 ⟨rfl, hb1⟩
      go_wp2_with fail
      go_ret
      exact ⟨ret_bool HB.out.symm, ((Below.refl _ _).alloc (Nat.le_refl _) _).trans (hb1.mono (by simp))⟩
  · have hne' : (FloatKind.f64.format.order (dist x v) (dist y v) != some .eq) = true := hne.trans (by simpa using he)
    have HB : Hid (before x y v a b = (FloatKind.f64.format.order (dist x v) (dist y v) == some .lt)) := by
      show before x y v a b = _
      rw [hlt]; unfold before; simp [he]
    clear hne hlt he hz
    go_enter Yba.func21, Yba.ntmps21
    go_wp2
    go_ret
    exact ⟨ret_bool HB.out.symm, (Below.refl _ _).alloc (Nat.le_refl _) _⟩

theorem below_cell {B : Nat} {w w' : World} (h : Below B w w') {b o : Nat} {u : Value} (hb : b < B) (hc : w.cell? ⟨b, o, none⟩ = some u) : w'.cell? ⟨b, o, none⟩ = some u := (h.cell (p := ⟨b, o, none⟩) hb).trans hc

/-- What a region that calls nearness's methods needs of the world: the receiver's box, the two values, old memory as it was. -/
abbrev Recv (w0 : World) (bx vb m : Nat) (x y v a b : Int) (w : World) : Prop :=
  w.cell? ⟨bx, 0, none⟩ = some (.slice (some ⟨vb, 0, none⟩) m m) ∧ w.cell? ⟨bx, 1, none⟩ = some (.float .f64 (F v)) ∧ w.cell? ⟨vb, a.toNat - 1, none⟩ = some (.float .f64 (F x)) ∧ w.cell? ⟨vb, b.toNat - 1, none⟩ = some (.float .f64 (F y)) ∧ Below w0.heap.size w0 w
theorem Recv.below {w0 : World} {bx vb m : Nat} {x y v a b : Int} {w w' : World} (h : Recv w0 bx vb m x y v a b w) (hb : Below w.heap.size w w') : Recv w0 bx vb m x y v a b w' :=
  ⟨below_cell hb (World.block_lt_of_cell? _ _ h.1) h.1, below_cell hb (World.block_lt_of_cell? _ _ h.2.1) h.2.1, below_cell hb (World.block_lt_of_cell? _ _ h.2.2.1) h.2.2.1, below_cell hb (World.block_lt_of_cell? _ _ h.2.2.2.1) h.2.2.2.1, h.2.2.2.2.trans (hb.mono h.2.2.2.2.size)⟩
theorem Recv.drew {w0 : World} {bx vb m : Nat} {x y v a b : Int} {w : World} (h : Recv w0 bx vb m x y v a b w) : Recv w0 bx vb m x y v a b w.drew := ⟨h.1, h.2.1, h.2.2.1, h.2.2.2.1, h.2.2.2.2.drew⟩
theorem dist_a {w0 : World} {bx vb m : Nat} {x y v a b : Int} (w : World) (hS : Recv w0 bx vb m x y v a b w) (ha : 1 ≤ a) (ham : a ≤ m) (hm : m ≤ 65537) (hx : Sm x) (hv : Sm v) :
    Calls Yba.prog 20 #[.agg #[.slice (some ⟨vb, 0, none⟩) m m, .float .f64 (F v)], .int .i64 a] w fun e w' => e = .returned (.float .f64 (dist x v)) ∧ Recv w0 bx vb m x y v a b w' :=
  (distance_any vb m x v a w ha ham hm hx hv hS.2.2.1).mono fun _ _ ⟨h1, h2⟩ => ⟨h1, hS.below h2⟩
theorem dist_b {w0 : World} {bx vb m : Nat} {x y v a b : Int} (w : World) (hS : Recv w0 bx vb m x y v a b w) (hb : 1 ≤ b) (hbm : b ≤ m) (hm : m ≤ 65537) (hy : Sm y) (hv : Sm v) :
    Calls Yba.prog 20 #[.agg #[.slice (some ⟨vb, 0, none⟩) m m, .float .f64 (F v)], .int .i64 b] w fun e w' => e = .returned (.float .f64 (dist y v)) ∧ Recv w0 bx vb m x y v a b w' :=
  (distance_any vb m y v b w hb hbm hm hy hv hS.2.2.2.1).mono fun _ _ ⟨h1, h2⟩ => ⟨h1, hS.below h2⟩
theorem at_ab {w0 : World} {bx vb m : Nat} {x y v a b : Int} (w : World) (hS : Recv w0 bx vb m x y v a b w) (ha : 1 ≤ a) (ham : a ≤ m) (hb : 1 ≤ b) (hbm : b ≤ m) (hm : m ≤ 65537) (hx : Sm x) (hy : Sm y) (hv : Sm v) :
    Calls Yba.prog 21 #[.agg #[.slice (some ⟨vb, 0, none⟩) m m, .float .f64 (F v)], .int .i64 a, .float .f64 (dist x v), .int .i64 b, .float .f64 (dist y v)] w fun e w' => e = .returned (.bool (before x y v a b)) ∧ Recv w0 bx vb m x y v a b w' :=
  (beforeAt_any vb m x y v a b w ha ham hb hbm hm hx hy hv hS.2.2.1 hS.2.2.2.1).mono fun _ _ ⟨h1, h2⟩ => ⟨h1, hS.below h2⟩

set_option maxHeartbeats 2000000 in
theorem before_any (vb m : Nat) (x y v a b : Int) (w : World) (ha : 1 ≤ a) (ham : a ≤ m) (hb : 1 ≤ b) (hbm : b ≤ m) (hm : m ≤ 65537) (hx : Sm x) (hy : Sm y) (hv : Sm v)
    (hca : w.cell? ⟨vb, a.toNat - 1, none⟩ = some (.float .f64 (F x))) (hcb : w.cell? ⟨vb, b.toNat - 1, none⟩ = some (.float .f64 (F y))) :
    Calls Yba.prog 19 #[.agg #[.slice (some ⟨vb, 0, none⟩) m m, .float .f64 (F v)], .int .i64 a, .int .i64 b] w fun e w' => e = .returned (.bool (before x y v a b)) ∧ Below w.heap.size w w' := by
  have hbk := World.block_lt_of_cell? _ _ hca
  have hS0 : Recv w w.heap.size vb m x y v a b (w.alloc (.cells #[.slice (some ⟨vb, 0, none⟩) m m, .float .f64 (F v)] 32)).drew :=
    ⟨World.cell?_alloc_at _ _ _ _ rfl, World.cell?_alloc_at _ _ _ _ rfl, (World.cell?_alloc_past _ _ _ hbk).trans hca, (World.cell?_alloc_past _ _ _ hbk).trans hcb, ((Below.refl _ _).alloc (Nat.le_refl _) _).drew⟩
  go_enter Yba.func19, Yba.ntmps19
  go_wp2
  go_region_held3 (fun w' => w'.cell? ⟨w.heap.size, 0, none⟩ = some (.slice (some ⟨vb, 0, none⟩) m m) ∧ w'.cell? ⟨w.heap.size, 1, none⟩ = some (.float .f64 (F v)) ∧ w'.cell? ⟨vb, a.toNat - 1, none⟩ = some (.float .f64 (F x)) ∧ w'.cell? ⟨vb, b.toNat - 1, none⟩ = some (.float .f64 (F y)) ∧ Below w.heap.size w w')
    (first | exact hS0 | assumption)
    (first
      | (go_at_call_of 20 (Value.int IntKind.i64 a); refine (dist_a (y := y) (b := b) _ (by assumption) ha ham hm hx hv).mono ?_; rintro e w' ⟨rfl, hSn⟩)
      | (go_at_call 20; refine (dist_b (x := x) (a := a) _ (by assumption) hb hbm hm hy hv).mono ?_; rintro e w' ⟨rfl, hSn⟩)
      | (go_at_call 21; refine (at_ab _ (by assumption) ha ham hb hbm hm hx hy hv).mono ?_; rintro e w' ⟨rfl, hSn⟩))
  go_wp2
  go_ret
  exact ⟨rfl, hSn.2.2.2.2⟩

theorem ad_neg {x v : Int} (h : x - v < 0) : adist x v = -(x - v) := if_pos h
theorem ad_pos {x v : Int} (h : 0 ≤ x - v) : adist x v = x - v := if_neg (by omega)
theorem ne_way {x y v a b da db : Int} (h1 : adist x v = da) (h2 : adist y v = db) (h : (da != db) = true) : decide (da < db) = before x y v a b := by
  have hne : ¬ da = db := by simpa using h
  unfold before
  rw [h1, h2]
  simp [hne]
theorem eq_way {x y v a b da db : Int} (h1 : adist x v = da) (h2 : adist y v = db) (h : (da != db) = false) : decide (a < b) = before x y v a b := by
  have he : da = db := by simpa using h
  unfold before
  rw [h1, h2, he]
  simp

set_option maxHeartbeats 1000000 in
/-- The law's own ranking. -/
theorem less_any (ib m : Nat) (x y v a b : Int) (w : World) (ha : 1 ≤ a) (ham : a ≤ m) (hb : 1 ≤ b) (hbm : b ≤ m) (hm : m ≤ 65537) (hx : Sm x) (hy : Sm y) (hv : Sm v)
    (hca : w.cell? ⟨ib, a.toNat - 1, none⟩ = some (.int .i64 x)) (hcb : w.cell? ⟨ib, b.toNat - 1, none⟩ = some (.int .i64 y)) :
    Calls Yba.prog 10 #[.slice (some ⟨ib, 0, none⟩) m m, .int .i64 v, .int .i64 a, .int .i64 b] w fun e w' => e = .returned (.bool (before x y v a b)) ∧ w' = w := by
  obtain ⟨hx0, hx1⟩ := hx
  obtain ⟨hy0, hy1⟩ := hy
  obtain ⟨hv0, hv1⟩ := hv
  have ha1 : a - 1 < (m : Int) := by omega
  have hb1 : b - 1 < (m : Int) := by omega
  have hm' : (m : Int) ≤ 65537 := by omega
  go_enter Yba.func10, Yba.ntmps10
  go_wp2
  all_goals go_ret
  · exact ⟨ret_bool ((decide_eq_decide.2 (by omega)).trans (ne_way (da := -(x - v)) (db := -(y - v)) (ad_neg ‹_›) (ad_neg ‹_›) ‹_›)), rfl⟩
  · exact ⟨ret_bool (eq_way (ad_neg ‹_›) (ad_neg ‹_›) ‹_›), rfl⟩
  · exact ⟨ret_bool (ne_way (ad_neg ‹_›) (ad_pos ‹_›) ‹_›), rfl⟩
  · exact ⟨ret_bool (eq_way (ad_neg ‹_›) (ad_pos ‹_›) ‹_›), rfl⟩
  · exact ⟨ret_bool (ne_way (ad_pos ‹_›) (ad_neg ‹_›) ‹_›), rfl⟩
  · exact ⟨ret_bool (eq_way (ad_pos ‹_›) (ad_neg ‹_›) ‹_›), rfl⟩
  · exact ⟨ret_bool ((decide_eq_decide.2 (by omega)).trans (ne_way (da := x - v) (db := y - v) (ad_pos ‹_›) (ad_pos ‹_›) ‹_›)), rfl⟩
  · exact ⟨ret_bool (eq_way (ad_pos ‹_›) (ad_pos ‹_›) ‹_›), rfl⟩
end Go.Proofs.Ybulkdzjs.A

/- 6304A: the decoder: bytes, byte, uint32. -/
import Derived.Test.YbulkdznmFmtK0
import Derived.Test.YbulkdznmFmtK2
import Derived.Deep.RegionWith
namespace Go.Proofs.YbulkdznmFmt.A
open Go.RowKit

set_option maxRecDepth 100000 in
set_option maxHeartbeats 2000000 in
theorem bytes_ok (db g o l c n : Nat) (w : World) (hn : n ≤ l) (hlc : l ≤ c) (hc : c ≤ 1000000000)
    (d0 : w.cell? ⟨db, 0, none⟩ = some (.slice (some ⟨g, o, none⟩) l c)) (d1 : w.cell? ⟨db, 1, none⟩ = some .nilIface) (f0 : w.frozen? ⟨db, 0, none⟩ = false) :
    Calls Ybaf.prog 14 #[.pointer (some ⟨db, 0, none⟩), .int .i64 n] w fun e w' => e = .returned (.slice (some ⟨g, o, none⟩) n c) ∧ ∃ a', (n < c → a' = some ⟨g, o + n, none⟩) ∧ w' = w.setCell ⟨db, 0, none⟩ (.slice a' (l - n) (c - n)) := by
  have h1 : (n : Int) ≤ l := by omega
  have h2 : decide ((l : Int) < n) = false := by simp; omega
  have h3 : (l : Int) ≤ c := by omega
  have h4 : (c : Int) ≤ 1000000000 := by omega
  go_enter Ybaf.func14, Ybaf.ntmps14
  go_wp2_with fail
  all_goals go_ret
  · exact ⟨rfl, _, rfl⟩
  · exact ⟨rfl, _, fun _ => rfl, rfl⟩

theorem Ybaf.info5 : (Ybaf.prog.info? 5).map (fun i => (i.zero, i.size, i.bytes)) = some (some (.int .u8 0), 1, 1) := by kernel_rfl

set_option maxRecDepth 100000 in
set_option maxHeartbeats 2000000 in
/-- A read past the end: the error is set, zeros come back. -/
theorem bytes_bad (db l c n T : Nat) (a : Option Addr) (x e1 : Value) (w : World) (hn : n ≤ 1000)
    (d0 : w.cell? ⟨db, 0, none⟩ = some (.slice a l c)) (d1 : w.cell? ⟨db, 1, none⟩ = some e1) (f1 : w.frozen? ⟨db, 1, none⟩ = false) (gv : w.cell? ⟨1, 0, none⟩ = some (.iface T x)) (hl : (e1 = .nilIface ∧ l < n) ∨ ∃ y, e1 = .iface T y) :
    Calls Ybaf.prog 14 #[.pointer (some ⟨db, 0, none⟩), .int .i64 n] w fun e w' => e = .returned (.slice (some ⟨w.heap.size, 0, none⟩) n n) ∧ Rw w' w.heap.size n (fun _ => .int .u8 0) ∧ Below w.heap.size (w.setCell ⟨db, 1, none⟩ (.iface T x)) w' := by
  obtain ⟨i5, hi5, h51, h52, h53⟩ := info_parts Ybaf.info5
  have h3 : (n : Int) ≤ 1000 := by omega
  rcases hl with ⟨rfl, hl⟩ | ⟨y, rfl⟩
  · have h1 : (l : Int) < n := by omega
    have h2 : decide ((l : Int) < n) = true := by simp; omega
    go_enter Ybaf.func14, Ybaf.ntmps14
    go_wp2_with (at_make; refine wpList_make_rw _ rfl (.tmp 24) 24 rfl 5 i5 (.int .u8 0) Ybaf.underlying24 hi5 h51 h52 rfl n ?hl ?b2 ?b3 ?_)
    case hl => rfl
    case b2 => rw [h53]; omega
    case b3 => omega
    intro w1 r1 b1 _
    have R1 := hide r1
    have B1 := hide b1
    clear r1 b1
    go_wp2_with fail
    go_ret
    exact ⟨rfl, R1.out, B1.out⟩
  · go_enter Ybaf.func14, Ybaf.ntmps14
    go_wp2_with (at_make; refine wpList_make_rw _ rfl (.tmp 24) 24 rfl 5 i5 (.int .u8 0) Ybaf.underlying24 hi5 h51 h52 rfl n ?hl ?b2 ?b3 ?_)
    case hl => rfl
    case b2 => rw [h53]; omega
    case b3 => omega
    intro w1 r1 b1 _
    have R1 := hide r1
    have B1 := hide b1
    clear r1 b1
    go_wp2_with fail
    go_ret
    exact ⟨rfl, R1.out, B1.out⟩

set_option maxRecDepth 100000 in
set_option maxHeartbeats 4000000 in
/-- binary.BigEndian.Uint32. -/
theorem be_f (g o n c : Nat) (b0 b1 b2 b3 : UInt8) (w : World) (hn : 4 ≤ n)
    (c0 : w.cell? ⟨g, o, none⟩ = some (.int .u8 b0.toNat)) (c1 : w.cell? ⟨g, o + 1, none⟩ = some (.int .u8 b1.toNat)) (c2 : w.cell? ⟨g, o + 2, none⟩ = some (.int .u8 b2.toNat)) (c3 : w.cell? ⟨g, o + 3, none⟩ = some (.int .u8 b3.toNat)) :
    Calls Ybaf.prog 20 #[.agg #[], .slice (some ⟨g, o, none⟩) n c] w fun e w' => e = .returned (.int .u32 (Lib.beNat [b0, b1, b2, b3])) ∧ Below w.heap.size w w' := by
  have h0 : b0.toNat < 256 := b0.toNat_lt
  have h1 : b1.toNat < 256 := b1.toNat_lt
  have h2 : b2.toNat < 256 := b2.toNat_lt
  have h3 : b3.toNat < 256 := b3.toNat_lt
  have hn' : (4 : Int) ≤ n := by omega
  have i0 : (0 : Int) < n := by omega
  have i1 : (1 : Int) < n := by omega
  have i2 : (2 : Int) < n := by omega
  have i3 : (3 : Int) < n := by omega
  have hbl : Below w.heap.size w (w.alloc (.cells #[] 71)) := (Below.refl _ _).alloc (Nat.le_refl _) _
  have e0 := bcell hbl c0
  have e1 := bcell hbl c1
  have e2 := bcell hbl c2
  have e3 := bcell hbl c3
  have HB := hide hbl
  clear hbl c0 c1 c2 c3
  go_enter Ybaf.func20, Ybaf.ntmps20
  go_wp2_with fail
  go_quiet (fail)
  go_wp2_with fail
  go_ret
  refine ⟨?_, below_drewN HB.out _⟩
  have s1 : bits .or .u32 (b3.toNat : Int) ((b2.toNat : Int) * 256) = b3.toNat + (b2.toNat : Int) * 256 := u32_or8 _ _ (by omega) (by omega) (by omega) (by omega) (by omega)
  have s2 : bits .or .u32 ((b3.toNat : Int) + (b2.toNat : Int) * 256) ((b1.toNat : Int) * 65536) = b3.toNat + (b2.toNat : Int) * 256 + (b1.toNat : Int) * 65536 := u32_or16 _ _ (by omega) (by omega) (by omega) (by omega) (by omega)
  have s3 : bits .or .u32 ((b3.toNat : Int) + (b2.toNat : Int) * 256 + (b1.toNat : Int) * 65536) ((b0.toNat : Int) * 16777216) = b3.toNat + (b2.toNat : Int) * 256 + (b1.toNat : Int) * 65536 + (b0.toNat : Int) * 16777216 := u32_or24 _ _ (by omega) (by omega) (by omega) (by omega) (by omega)
  rw [be4, ← s3, ← s2, ← s1]
  rfl

set_option maxRecDepth 100000 in
set_option maxHeartbeats 2000000 in
theorem byte_ok (db g o l c : Nat) (b : Int) (w : World) (hn : 1 ≤ l) (hlc : l ≤ c) (hc : c ≤ 1000000000) (hdg : g ≠ db)
    (d0 : w.cell? ⟨db, 0, none⟩ = some (.slice (some ⟨g, o, none⟩) l c)) (d1 : w.cell? ⟨db, 1, none⟩ = some .nilIface) (f0 : w.frozen? ⟨db, 0, none⟩ = false) (cb : w.cell? ⟨g, o, none⟩ = some (.int .u8 b)) :
    Calls Ybaf.prog 15 #[.pointer (some ⟨db, 0, none⟩)] w fun e w' => e = .returned (.int .u8 b) ∧ ∃ a', (1 < c → a' = some ⟨g, o + 1, none⟩) ∧ w' = w.setCell ⟨db, 0, none⟩ (.slice a' (l - 1) (c - 1)) := by
  have hb := bytes_ok db g o l c 1 w hn hlc hc d0 d1 f0
  go_enter Ybaf.func15, Ybaf.ntmps15
  go_wp2_with fail
  refine hb.mono ?_
  rintro e w' ⟨rfl, a', ha, rfl⟩
  have cb' : (w.setCell ⟨db, 0, none⟩ (.slice a' (l - 1) (c - 1))).cell? ⟨g, o, none⟩ = some (.int .u8 b) := (World.cell?_setCell_other _ _ _ _ (by intro e; injection e with e _ _; exact hdg e.symm)).trans cb
  have HA := hide ha
  clear ha hb
  go_wp2_with fail
  go_ret
  exact ⟨rfl, a', HA.out, rfl⟩

set_option maxRecDepth 100000 in
set_option maxHeartbeats 2000000 in
theorem byte_bad (db l c T : Nat) (a : Option Addr) (x e1 : Value) (w : World)
    (d0 : w.cell? ⟨db, 0, none⟩ = some (.slice a l c)) (d1 : w.cell? ⟨db, 1, none⟩ = some e1) (f1 : w.frozen? ⟨db, 1, none⟩ = false) (gv : w.cell? ⟨1, 0, none⟩ = some (.iface T x)) (hl : (e1 = .nilIface ∧ l < 1) ∨ ∃ y, e1 = .iface T y) :
    Calls Ybaf.prog 15 #[.pointer (some ⟨db, 0, none⟩)] w fun e w' => e = .returned (.int .u8 0) ∧ Below w.heap.size (w.setCell ⟨db, 1, none⟩ (.iface T x)) w' := by
  have hb := bytes_bad db l c 1 T a x e1 w (by omega) d0 d1 f1 gv hl
  clear d0 d1 f1 gv hl
  go_enter Ybaf.func15, Ybaf.ntmps15
  go_wp2_with fail
  refine hb.mono ?_
  rintro e w' ⟨rfl, hr, hbl⟩
  have HB := hide hbl
  have cz := (hr 0 (by omega)).1
  clear hr hb hbl
  go_wp2_with fail
  go_ret
  exact ⟨rfl, HB.out⟩

set_option maxRecDepth 100000 in
set_option maxHeartbeats 2000000 in
theorem uint32_ok (db g o l c : Nat) (b0 b1 b2 b3 : UInt8) (w : World) (hn : 4 ≤ l) (hlc : l ≤ c) (hc : c ≤ 1000000000) (hdg : g ≠ db)
    (d0 : w.cell? ⟨db, 0, none⟩ = some (.slice (some ⟨g, o, none⟩) l c)) (d1 : w.cell? ⟨db, 1, none⟩ = some .nilIface) (f0 : w.frozen? ⟨db, 0, none⟩ = false)
    (c0 : w.cell? ⟨g, o, none⟩ = some (.int .u8 b0.toNat)) (c1 : w.cell? ⟨g, o + 1, none⟩ = some (.int .u8 b1.toNat)) (c2 : w.cell? ⟨g, o + 2, none⟩ = some (.int .u8 b2.toNat)) (c3 : w.cell? ⟨g, o + 3, none⟩ = some (.int .u8 b3.toNat)) :
    Calls Ybaf.prog 13 #[.pointer (some ⟨db, 0, none⟩)] w fun e w' => e = .returned (.int .u32 (Lib.beNat [b0, b1, b2, b3])) ∧ ∃ a', (4 < c → a' = some ⟨g, o + 4, none⟩) ∧ Below w.heap.size (w.setCell ⟨db, 0, none⟩ (.slice a' (l - 4) (c - 4))) w' := by
  have oth : ∀ (k : Nat) (u v : Value), w.cell? ⟨g, k, none⟩ = some u → (w.drew.setCell ⟨db, 0, none⟩ v).cell? ⟨g, k, none⟩ = some u := fun k u v h => (World.cell?_setCell_other _ _ _ _ (by intro e; injection e with e _ _; exact hdg e.symm)).trans h
  have hb : Hid (Calls Ybaf.prog 14 #[.pointer (some ⟨db, 0, none⟩), .int .i64 4] w.drew fun e w' => e = .returned (.slice (some ⟨g, o, none⟩) 4 c) ∧ ∃ a', (4 < c → a' = some ⟨g, o + 4, none⟩) ∧ w' = w.drew.setCell ⟨db, 0, none⟩ (.slice a' (l - 4) (c - 4))) := hide (bytes_ok db g o l c 4 w.drew hn hlc hc d0 d1 f0)
  have hu : Hid (∀ v, Calls Ybaf.prog 20 #[.agg #[], .slice (some ⟨g, o, none⟩) 4 c] (w.drew.setCell ⟨db, 0, none⟩ v) fun e w' => e = .returned (.int .u32 (Lib.beNat [b0, b1, b2, b3])) ∧ Below (w.drew.setCell ⟨db, 0, none⟩ v).heap.size (w.drew.setCell ⟨db, 0, none⟩ v) w') := hide (fun v => be_f g o 4 c b0 b1 b2 b3 _ (Nat.le_refl _) (oth _ _ _ c0) (oth _ _ _ c1) (oth _ _ _ c2) (oth _ _ _ c3))
  clear c0 c1 c2 c3 d0 d1 f0 oth
  go_enter Ybaf.func13, Ybaf.ntmps13
  go_wp2_with fail
  go_region_with (first
    | (go_at_call 14; refine hb.out.mono ?_; rintro e w1 ⟨rfl, a', ha, rfl⟩; have HA := hide ha; clear ha)
    | (go_at_call 20; refine (hu.out _).mono ?_; rintro e w2 ⟨rfl, hb2⟩; have HB := hide hb2; clear hb2))
  all_goals go_wp2_with fail
  all_goals go_ret
  all_goals refine ⟨rfl, a', HA.out, ?_⟩
  all_goals (have := HB.out; simp at this; exact ⟨this.os, this.tape, this.output, by simpa using this.size, this.block⟩)

set_option maxRecDepth 100000 in
set_option maxHeartbeats 2000000 in
theorem uint32_bad (db l c T : Nat) (a : Option Addr) (x e1 : Value) (w : World)
    (d0 : w.cell? ⟨db, 0, none⟩ = some (.slice a l c)) (d1 : w.cell? ⟨db, 1, none⟩ = some e1) (f1 : w.frozen? ⟨db, 1, none⟩ = false) (gv : w.cell? ⟨1, 0, none⟩ = some (.iface T x)) (hl : (e1 = .nilIface ∧ l < 4) ∨ ∃ y, e1 = .iface T y) :
    Calls Ybaf.prog 13 #[.pointer (some ⟨db, 0, none⟩)] w fun e w' => e = .returned (.int .u32 0) ∧ Below w.heap.size (w.setCell ⟨db, 1, none⟩ (.iface T x)) w' := by
  have hb : Hid (Calls Ybaf.prog 14 #[.pointer (some ⟨db, 0, none⟩), .int .i64 4] w.drew fun e w' => e = .returned (.slice (some ⟨w.heap.size, 0, none⟩) 4 4) ∧ Rw w' w.heap.size 4 (fun _ => .int .u8 0) ∧ Below w.heap.size (w.drew.setCell ⟨db, 1, none⟩ (.iface T x)) w') := hide (bytes_bad db l c 4 T a x e1 w.drew (by omega) d0 d1 f1 gv hl)
  have hu : Hid (∀ w1, Rw w1 w.heap.size 4 (fun _ => .int .u8 0) → Calls Ybaf.prog 20 #[.agg #[], .slice (some ⟨w.heap.size, 0, none⟩) 4 4] w1 fun e w' => e = .returned (.int .u32 0) ∧ Below w1.heap.size w1 w') := hide (fun w1 h => by
    have hz := be_f w.heap.size 0 4 4 0 0 0 0 w1 (Nat.le_refl _) (h 0 (by omega)).1 (h 1 (by omega)).1 (h 2 (by omega)).1 (h 3 (by omega)).1
    exact hz)
  clear d0 d1 f1 gv hl
  go_enter Ybaf.func13, Ybaf.ntmps13
  go_wp2_with fail
  go_region_with (first
    | (go_at_call 14; refine hb.out.mono ?_; rintro e w1 ⟨rfl, hr, ha⟩; have HR := hide hr; have HA := hide ha; clear ha hr)
    | (go_at_call 20; refine (hu.out _ HR.out).mono ?_; rintro e w2 ⟨rfl, hb2⟩; have HB := hide hb2; clear hb2))
  all_goals go_wp2_with fail
  all_goals go_ret
  all_goals refine ⟨rfl, ?_⟩
  all_goals exact (show Below w.heap.size (w.setCell ⟨db, 1, none⟩ (.iface T x)) w1 from ⟨HA.out.os, HA.out.tape, HA.out.output, HA.out.size, HA.out.block⟩).trans (HB.out.mono (by have := HA.out.size; simpa using this))
end Go.Proofs.YbulkdznmFmt.A

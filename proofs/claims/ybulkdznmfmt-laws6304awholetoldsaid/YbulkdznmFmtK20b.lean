/- 6304A: comparisons; both parsers at any row; a look-up by name. -/
import Derived.Test.YbulkdznmFmtK20
namespace Go.Proofs.YbulkdznmFmt.A
open Go.RowKit Go.Extern.Stop Go.Stop

theorem bits8 (op : BinOp) (x y : Int) : 0 ≤ bits op .u8 x y ∧ bits op .u8 x y < 256 := by
  simp only [bits, IntKind.wrap_u8]
  omega
theorem model_any (a : Option Addr) (n c : Nat) (f : Nat → UInt8) (w : World) (hn : n ≤ 30000000) (hnc : n ≤ c) (hc : c ≤ 9223372036854775807) (h : 0 < n → ∃ g, a = some ⟨g, 0, none⟩ ∧ By w g 0 n f) :
    Calls Ybaf.prog 6 #[.slice a n c] w (MPost f (parse f n) w) := by
  by_cases h4 : n < 4
  · exact model_short f n c a w h4
  · obtain ⟨g, rfl, hB⟩ := h (by omega)
    exact model_f f g 0 n c w (by omega) (by omega) hnc hc hB (lt_of (hB 0 (by omega)))
theorem decode_any (F : Interp) (a : Option Addr) (n c T : Nat) (x : Value) (f : Nat → UInt8) (w : World) (hn : n ≤ 30000000) (hnc : n ≤ c) (hc : c ≤ 9223372036854775807) (h : 0 < n → ∃ g, a = some ⟨g, 0, none⟩ ∧ By w g 0 n f) (gv : w.cell? ⟨1, 0, none⟩ = some (.iface T x)) (hF : F.answers w.tape) :
    Calls Ybaf.prog 7 #[.slice a n c] w (DPost f (parse f n) w) := by
  by_cases h4 : n < 4
  · exact decode_short f n c T x a w h4 gv
  · obtain ⟨g, rfl, hB⟩ := h (by omega)
    exact decode_f F f g 0 n c T x w (by omega) hn hnc hc hB (lt_of (hB 0 (by omega))) gv hF
theorem bl_self (f : Nat → UInt8) : (bl f == bl f) = true := by simp
theorem neq40 (f : Nat → UInt8) (w : World) : (binOp .neq 40 (ar f) (ar f)).run Ybaf.prog w = .ok (.bool false) w := by
  have h := run_equalIn_bytes (P := Ybaf.prog) w 9998 40 5 8 Ybaf.underlying40 Ybaf.underlying5 size5 (bl f) (bl f) rfl rfl
  rw [bl_self] at h
  have h' : (Op.equalIn 10000 40 (ar f) (ar f)).run Ybaf.prog w = .ok true w := h
  have e : (binOp .neq 40 (ar f) (ar f)).run Ybaf.prog w = ((Op.equalIn 10000 40 (ar f) (ar f)).run Ybaf.prog w).andThen fun b w' => .ok (.bool (!b)) w' := run_neq_struct w 40 _ _
  rw [e, h']
  rfl
theorem size5' (w : World) : (sizeOf 5).run Ybaf.prog w = .ok 1 w := size5 w
theorem eq40L (f : Nat → UInt8) (w : World) : (Op.equalIn 9999 40 (.agg #[.int .u8 (f 0).toNat, .int .u8 (f 1).toNat, .int .u8 (f 2).toNat, .int .u8 (f 3).toNat, .int .u8 (f 4).toNat, .int .u8 (f 5).toNat, .int .u8 (f 6).toNat, .int .u8 (f 7).toNat]) (.agg #[.int .u8 (f 0).toNat, .int .u8 (f 1).toNat, .int .u8 (f 2).toNat, .int .u8 (f 3).toNat, .int .u8 (f 4).toNat, .int .u8 (f 5).toNat, .int .u8 (f 6).toNat, .int .u8 (f 7).toNat])).run Ybaf.prog w = .ok true w := by
  have h := run_equalIn_bytes (P := Ybaf.prog) w 9997 40 5 8 Ybaf.underlying40 Ybaf.underlying5 size5 [f 0, f 1, f 2, f 3, f 4, f 5, f 6, f 7] [f 0, f 1, f 2, f 3, f 4, f 5, f 6, f 7] rfl rfl
  rw [beq_self_eq_true] at h
  exact h
theorem eq46L (f : Nat → UInt8) (w : World) : (Op.equalIn 9999 46 (.agg #[.int .u8 (f 8).toNat, .int .u8 (f 9).toNat, .int .u8 (f 10).toNat, .int .u8 (f 11).toNat, .int .u8 (f 12).toNat, .int .u8 (f 13).toNat, .int .u8 (f 14).toNat, .int .u8 (f 15).toNat, .int .u8 (f 16).toNat, .int .u8 (f 17).toNat, .int .u8 (f 18).toNat, .int .u8 (f 19).toNat, .int .u8 (f 20).toNat, .int .u8 (f 21).toNat, .int .u8 (f 22).toNat, .int .u8 (f 23).toNat, .int .u8 (f 24).toNat, .int .u8 (f 25).toNat, .int .u8 (f 26).toNat, .int .u8 (f 27).toNat, .int .u8 (f 28).toNat, .int .u8 (f 29).toNat, .int .u8 (f 30).toNat, .int .u8 (f 31).toNat, .int .u8 (f 32).toNat, .int .u8 (f 33).toNat, .int .u8 (f 34).toNat, .int .u8 (f 35).toNat, .int .u8 (f 36).toNat, .int .u8 (f 37).toNat, .int .u8 (f 38).toNat, .int .u8 (f 39).toNat]) (.agg #[.int .u8 (f 8).toNat, .int .u8 (f 9).toNat, .int .u8 (f 10).toNat, .int .u8 (f 11).toNat, .int .u8 (f 12).toNat, .int .u8 (f 13).toNat, .int .u8 (f 14).toNat, .int .u8 (f 15).toNat, .int .u8 (f 16).toNat, .int .u8 (f 17).toNat, .int .u8 (f 18).toNat, .int .u8 (f 19).toNat, .int .u8 (f 20).toNat, .int .u8 (f 21).toNat, .int .u8 (f 22).toNat, .int .u8 (f 23).toNat, .int .u8 (f 24).toNat, .int .u8 (f 25).toNat, .int .u8 (f 26).toNat, .int .u8 (f 27).toNat, .int .u8 (f 28).toNat, .int .u8 (f 29).toNat, .int .u8 (f 30).toNat, .int .u8 (f 31).toNat, .int .u8 (f 32).toNat, .int .u8 (f 33).toNat, .int .u8 (f 34).toNat, .int .u8 (f 35).toNat, .int .u8 (f 36).toNat, .int .u8 (f 37).toNat, .int .u8 (f 38).toNat, .int .u8 (f 39).toNat])).run Ybaf.prog w = .ok true w := by
  have h := run_equalIn_bytes (P := Ybaf.prog) w 9997 46 5 32 Ybaf.underlying46 Ybaf.underlying5 size5 [f 8, f 9, f 10, f 11, f 12, f 13, f 14, f 15, f 16, f 17, f 18, f 19, f 20, f 21, f 22, f 23, f 24, f 25, f 26, f 27, f 28, f 29, f 30, f 31, f 32, f 33, f 34, f 35, f 36, f 37, f 38, f 39] [f 8, f 9, f 10, f 11, f 12, f 13, f 14, f 15, f 16, f 17, f 18, f 19, f 20, f 21, f 22, f 23, f 24, f 25, f 26, f 27, f 28, f 29, f 30, f 31, f 32, f 33, f 34, f 35, f 36, f 37, f 38, f 39] rfl rfl
  rw [beq_self_eq_true] at h
  exact h
set_option maxRecDepth 100000 in
set_option maxHeartbeats 4000000 in
theorem neq48L (f : Nat → UInt8) (w : World) : (binOp .neq 48 (.agg #[.int .u8 (f 0).toNat, .int .u8 (f 1).toNat, .int .u8 (f 2).toNat, .int .u8 (f 3).toNat, .int .u8 (f 4).toNat, .int .u8 (f 5).toNat, .int .u8 (f 6).toNat, .int .u8 (f 7).toNat, .int .u8 (f 8).toNat, .int .u8 (f 9).toNat, .int .u8 (f 10).toNat, .int .u8 (f 11).toNat, .int .u8 (f 12).toNat, .int .u8 (f 13).toNat, .int .u8 (f 14).toNat, .int .u8 (f 15).toNat, .int .u8 (f 16).toNat, .int .u8 (f 17).toNat, .int .u8 (f 18).toNat, .int .u8 (f 19).toNat, .int .u8 (f 20).toNat, .int .u8 (f 21).toNat, .int .u8 (f 22).toNat, .int .u8 (f 23).toNat, .int .u8 (f 24).toNat, .int .u8 (f 25).toNat, .int .u8 (f 26).toNat, .int .u8 (f 27).toNat, .int .u8 (f 28).toNat, .int .u8 (f 29).toNat, .int .u8 (f 30).toNat, .int .u8 (f 31).toNat, .int .u8 (f 32).toNat, .int .u8 (f 33).toNat, .int .u8 (f 34).toNat, .int .u8 (f 35).toNat, .int .u8 (f 36).toNat, .int .u8 (f 37).toNat, .int .u8 (f 38).toNat, .int .u8 (f 39).toNat]) (.agg #[.int .u8 (f 0).toNat, .int .u8 (f 1).toNat, .int .u8 (f 2).toNat, .int .u8 (f 3).toNat, .int .u8 (f 4).toNat, .int .u8 (f 5).toNat, .int .u8 (f 6).toNat, .int .u8 (f 7).toNat, .int .u8 (f 8).toNat, .int .u8 (f 9).toNat, .int .u8 (f 10).toNat, .int .u8 (f 11).toNat, .int .u8 (f 12).toNat, .int .u8 (f 13).toNat, .int .u8 (f 14).toNat, .int .u8 (f 15).toNat, .int .u8 (f 16).toNat, .int .u8 (f 17).toNat, .int .u8 (f 18).toNat, .int .u8 (f 19).toNat, .int .u8 (f 20).toNat, .int .u8 (f 21).toNat, .int .u8 (f 22).toNat, .int .u8 (f 23).toNat, .int .u8 (f 24).toNat, .int .u8 (f 25).toNat, .int .u8 (f 26).toNat, .int .u8 (f 27).toNat, .int .u8 (f 28).toNat, .int .u8 (f 29).toNat, .int .u8 (f 30).toNat, .int .u8 (f 31).toNat, .int .u8 (f 32).toNat, .int .u8 (f 33).toNat, .int .u8 (f 34).toNat, .int .u8 (f 35).toNat, .int .u8 (f 36).toNat, .int .u8 (f 37).toNat, .int .u8 (f 38).toNat, .int .u8 (f 39).toNat])).run Ybaf.prog w = .ok (.bool false) w := by
  have h1 := eq40L f
  have h2 := eq46L f
  go_simp
theorem scs_uniq {B : Nat → UInt8} {ds : List (Nat × Nat × Nat)} (hd : ds.Pairwise (fun p q => nm B p.1 ≠ nm B q.1)) : ∀ {s t : Nat × Nat × Nat}, s ∈ ds → t ∈ ds → nm B s.1 = nm B t.1 → s = t := by
  induction ds with
  | nil => intro s t hs; cases hs
  | cons a ds ih =>
    rw [List.pairwise_cons] at hd
    intro s t hs ht e
    rcases List.mem_cons.1 hs with rfl | hs2
    · rcases List.mem_cons.1 ht with rfl | ht2
      · rfl
      · exact absurd e (hd.1 t ht2)
    · rcases List.mem_cons.1 ht with rfl | ht2
      · exact absurd e.symm (hd.1 s hs2)
      · exact ih hd.2 hs2 ht2 e
theorem wp_lookS {o : Oper} {a : Act} {w : World} {K : Act → World → Prop} {Q : Exit → Act → World → Prop} (m x : Operand) (hop : o.op = Op.lookup 32 m x false) (B : Nat → UInt8)
    (sm : Nat) (ds : List (Nat × Nat × Nat)) (s : Nat × Nat × Nat) (hm : a.eval m = .map (some sm)) (hx : a.eval x = .string (nm B s.1)) (hL : MapL w sm (scs B ds)) (hs : s ∈ ds) (hd : ds.Pairwise (fun p q => nm B p.1 ≠ nm B q.1))
    (h : K (a.put o.dst (.pointer (some ⟨s.2.1, 0, none⟩))) w) : Oper.wp Ybaf.prog o a w K Q := by
  have hsz : ∀ q, (nm B q).size ≤ maxLen := fun q => by
    have := (B q).toNat_lt
    unfold nm maxLen
    rw [str_size]
    omega
  have hrun : (Instr.lookup 32 (.map (some sm)) (.string (nm B s.1)) false).run Ybaf.prog w = .ok (.pointer (some ⟨s.2.1, 0, none⟩)) w := by
    rcases run_lookupL law9 Ybaf.underlying32 w (z := .pointer none) (by kernel_rfl) hL (key9 (nm B s.1) (hsz s.1)) (fun e he => by
      obtain ⟨q, _, rfl⟩ := List.mem_map.1 he
      exact ⟨_, key9 _ (hsz q.1)⟩) with ⟨_, h2⟩ | ⟨v, h1, h2⟩
    · exact absurd rfl (h2 (.string (nm B s.1), .pointer (some ⟨s.2.1, 0, none⟩)) (List.mem_map.2 ⟨s, hs, rfl⟩))
    · rw [h1]
      obtain ⟨t, ht, e⟩ := List.mem_map.1 h2
      injection e with e1 e2
      injection e1 with e1
      rw [scs_uniq hd hs ht e1.symm, ← e2]
  unfold Oper.wp
  simp [execOp, hop, hm, hx, hrun, Result.andThen]
  exact h
theorem asc_pairs {B : Nat → UInt8} {ds : List (Nat × Nat × Nat)} (h : Asc B (ds.map (·.1))) : ds.Pairwise (fun p q => nm B p.1 ≠ nm B q.1) := by
  have := asc_ne h
  rwa [List.pairwise_map] at this
end Go.Proofs.YbulkdznmFmt.A

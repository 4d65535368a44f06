/- The proof of Rows.LawS6297CWholeSaid; the walk: YbulkdzjsC10. -/
import Derived.Test.YbulkdzjsRows
import Derived.WalkKit
import Derived.ProofKit
import Derived.OpenShut
import Derived.ChangeOld
import Derived.Below
import Derived.Deep.Matrix
import Derived.Deep.Grids
import Derived.Test.YbulkdzjsC10
namespace Go.Proofs.Ybulkdzjs.lawS6297CWhole
open Go.ChangeShapes Go.WideShapes Go.ChangeAt Go.RowKit
set_option linter.unusedVariables false

theorem own : ownKnob Yba.prog.godebug = none := by kernel_rfl
theorem laidOut : laidOutB Yba.prog = true := by kernel_rfl
theorem cells5 : Yba.prog.cellsOf 5 = 1 := by kernel_rfl
theorem cells4 : Yba.prog.cellsOf 4 = 1 := by kernel_rfl
theorem cells63 : Yba.prog.cellsOf 63 = 1 := by kernel_rfl

theorem cells_at {w : World} {a : Addr} {n : Nat} {V : Nat → Value} (h : ∀ i, i < n → w.cell? (a.add i) = some (V i)) (hp : 0 < n) :
    ∃ b off, a = ⟨b, off, none⟩ ∧ ∀ j, j < n → w.cell? ⟨b, off + j, none⟩ = some (V j) := by
  obtain ⟨b, off, spot⟩ := a
  have hspot : spot = none := by simpa [Addr.add] using World.cell?_spot (h 0 hp)
  subst hspot
  exact ⟨b, off, rfl, fun j hj => by rw [← Go.WideShapes.add_plain]; exact h j hj⟩
theorem nat_cell {zs : List Int} (hw : ∀ n ∈ zs, (Lit.int .u8 n).wf = true) (i : Nat) : Value.int .u8 (zs.getD i 0) = Value.int .u8 (((zs.getD i 0).toNat : Nat) : Int) ∧ (zs.getD i 0).toNat ≤ 255 := by
  have h : 0 ≤ zs.getD i 0 ∧ zs.getD i 0 ≤ 255 := range_u8 hw i
  exact ⟨by rw [Int.toNat_of_nonneg h.1], by omega⟩
section
variable {H : Type} {enc : TypeId × Value → H} {W : World} {a : Option Addr} {l c : Nat} {d : DataW H} {p : List MemPlace}
theorem op_ints (h : DataW.Trod enc Yba.prog W 0 (fun _ => true) true 63 (.slice a l c) d p) :
    ∃ E : Nat → Nat, (∀ i, E i ≤ 255) ∧ l ≤ maxLen ∧ (0 < l → ∃ b o, a = some ⟨b, o, none⟩ ∧ ∀ i, i < l → W.cell? ⟨b, o + i, none⟩ = some (.int .u8 (E i))) := by
  obtain ⟨fuel, hf⟩ := h
  rcases open_ints Yba.underlying63 Yba.underlying5 (by kernel_rfl) hf with ⟨hcs, _⟩ | ⟨x, l', c', zs, hcs, _, hl, hm, hz, _, hcell, hwz⟩
  · simp [Value.cells] at hcs
    obtain ⟨rfl, rfl, rfl⟩ := hcs
    exact ⟨fun _ => 0, fun _ => Nat.zero_le _, Nat.zero_le _, fun h => absurd h (Nat.lt_irrefl 0)⟩
  · simp [Value.cells] at hcs
    obtain ⟨rfl, rfl, rfl⟩ := hcs
    have hz' : zs.length = c := by simpa using hz
    refine ⟨fun i => (zs.getD i 0).toNat, fun i => (nat_cell hwz i).2, Nat.le_trans hl hm, fun hp => ?_⟩
    obtain ⟨b, o, rfl, hc⟩ := ints_at hcell (by omega)
    exact ⟨b, o, rfl, fun i hi => by rw [hc i (by omega), (nat_cell hwz i).1]⟩
theorem op_rows (h : DataW.Trod enc Yba.prog W 0 (fun _ => true) true 64 (.slice a l c) d p) :
    ∃ (Ra : Nat → Option Addr) (Rl Rp : Nat → Nat) (R : Nat → Nat → Nat), (∀ i m, R i m ≤ 255) ∧ l ≤ maxLen ∧ (∀ i, Rl i ≤ maxLen) ∧
      (0 < l → ∃ b o, a = some ⟨b, o, none⟩ ∧ ∀ i, i < l → W.cell? ⟨b, o + i, none⟩ = some (.slice (Ra i) (Rl i) (Rp i))) ∧
      (∀ i, i < l → 0 < Rl i → ∃ b o, Ra i = some ⟨b, o, none⟩ ∧ ∀ m, m < Rl i → W.cell? ⟨b, o + m, none⟩ = some (.int .u8 (R i m))) := by
  obtain ⟨fuel, hf⟩ := h
  rcases Deep.open_int_rows Yba.underlying64 Yba.underlying63 Yba.underlying5 cells63 cells5 hf with ⟨hcs, _⟩ | ⟨x, l', c', A, L, C, Z, hcs, _, hl, hm, _, hr⟩
  · simp [Value.cells] at hcs
    obtain ⟨rfl, rfl, rfl⟩ := hcs
    exact ⟨fun _ => none, fun _ => 0, fun _ => 0, fun _ _ => 0, fun _ _ => Nat.zero_le _, Nat.zero_le _, fun _ => Nat.zero_le _, fun h => absurd h (Nat.lt_irrefl 0), fun i h => absurd h (Nat.not_lt_zero i)⟩
  · simp [Value.cells] at hcs
    obtain ⟨rfl, rfl, rfl⟩ := hcs
    refine ⟨A, fun i => if i < l then L i else 0, C, fun i m => if i < l then ((Z i).getD m 0).toNat else 0, fun i m => ?_, Nat.le_trans hl hm, fun i => ?_, fun hp => ?_, fun i hi hp => ?_⟩
    · by_cases h : i < l
      · simp only [if_pos h]
        exact (nat_cell (hr i (by omega)).2.2.2.2.1 m).2
      · simp only [if_neg h]
        exact Nat.zero_le _
    · by_cases h : i < l
      · simp only [if_pos h]
        exact Nat.le_trans (hr i (by omega)).2.1 (hr i (by omega)).2.2.1
      · simp only [if_neg h]
        exact Nat.zero_le _
    · obtain ⟨b, o, rfl, hc⟩ := cells_at (n := l) (V := fun i => .slice (A i) (if i < l then L i else 0) (C i)) (fun i hi => by rw [(hr i (by omega)).1]; simp only [if_pos hi]) hp
      exact ⟨b, o, rfl, hc⟩
    · simp only [if_pos hi] at hp ⊢
      obtain ⟨_, h2, _, h4, h5, h6, h7⟩ := hr i (by omega)
      rcases hA : A i with _ | a'
      · have := h6 hA; omega
      · obtain ⟨_, h8⟩ := h7 a' hA
        obtain ⟨b, o, rfl, hc⟩ := ints_at (zs := Z i) (fun m hm => h8 m (by omega)) (by omega)
        exact ⟨b, o, rfl, fun m hm => by rw [hc m (by omega), (nat_cell h5 m).1]⟩
theorem op_bools (h : DataW.Trod enc Yba.prog W 0 (fun _ => true) true 65 (.slice a l c) d p) :
    ∃ B : Nat → Bool, l ≤ maxLen ∧ (0 < l → ∃ b o, a = some ⟨b, o, none⟩ ∧ ∀ i, i < l → W.cell? ⟨b, o + i, none⟩ = some (.bool (B i))) := by
  obtain ⟨fuel, hf⟩ := h
  rcases Deep.open_bools Yba.underlying65 Yba.underlying4 cells4 hf with ⟨hcs, _⟩ | ⟨x, l', c', B, hcs, _, hl, hm, _, hcell⟩
  · simp [Value.cells] at hcs
    obtain ⟨rfl, rfl, rfl⟩ := hcs
    exact ⟨fun _ => false, Nat.zero_le _, fun h => absurd h (Nat.lt_irrefl 0)⟩
  · simp [Value.cells] at hcs
    obtain ⟨rfl, rfl, rfl⟩ := hcs
    refine ⟨B, Nat.le_trans hl hm, fun hp => ?_⟩
    obtain ⟨b, o, rfl, hc⟩ := cells_at (n := l) (V := fun i => .bool (B i)) (fun i hi => hcell i (by omega)) hp
    exact ⟨b, o, rfl, hc⟩
end

set_option maxRecDepth 100000 in
theorem lifted (os : Os) (started : os.Started) (H : Type) (enc : TypeId × Value → H) :
    ReturnsInHanded {} Yba.checked os 5 .any (Rows.lawS6297CWholeSpec.pre6 enc Yba.prog Yba.f5 Rows.lawS6297CWholeRow.domain false) (Rows.lawS6297CWholeSpec.post enc Yba.prog Yba.f5 false true false false) := by
  refine returnsInHanded_of_change (C := Yba.checked) own started (by kernel_rfl) Yba.func5
    (ChangeSpec.witness6 (enc := enc) (C := Yba.checked) false ⟨#[], #[.int .u8 0, .int .u8 0, .int .u8 0, .int .u8 0, .bool false, .bool false, .slice none 0 0, .slice none 0 0, .slice none 0 0], []⟩ 8 (by kernel_rfl) (by kernel_rfl) (by kernel_rfl) (by kernel_rfl)) ?_
  intro W base args ds gs before hval0 hW hcnd _
  have hval : ∀ (j : Nat) t v, Yba.f5.params[j]? = some t → args[j]? = some v → Value.okWide Yba.prog W .any base t v := hval0
  have hW' := hW
  obtain ⟨p, q, hA0, hV, rfl, hfz, hnd⟩ := hW
  have hA : DataW.TrodAll enc Yba.prog W 0 (fun _ => true) true Yba.f5.params.toList args.toList ds p := hA0
  rw [Yba.params5] at hA hval
  obtain ⟨v0, vs0, d0, ds0, p0, q0, hargs, rfl, rfl, h0, r0⟩ := trodAll_cons hA
  obtain ⟨v1, vs1, d1, ds1, p1, q1, rfl, rfl, rfl, h1, r1⟩ := trodAll_cons r0
  obtain ⟨v2, vs2, d2, ds2, p2, q2, rfl, rfl, rfl, h2, r2⟩ := trodAll_cons r1
  obtain ⟨v3, vs3, d3, ds3, p3, q3, rfl, rfl, rfl, h3, r3⟩ := trodAll_cons r2
  obtain ⟨v4, vs4, d4, ds4, p4, q4, rfl, rfl, rfl, h4, r4⟩ := trodAll_cons r3
  obtain ⟨v5, vs5, d5, ds5, p5, q5, rfl, rfl, rfl, h5, r5⟩ := trodAll_cons r4
  obtain ⟨v6, vs6, d6, ds6, p6, q6, rfl, rfl, rfl, h6, r6⟩ := trodAll_cons r5
  obtain ⟨v7, vs7, d7, ds7, p7, q7, rfl, rfl, rfl, h7, r7⟩ := trodAll_cons r6
  obtain ⟨v8, vs8, d8, ds8, p8, q8, rfl, rfl, rfl, h8, r8⟩ := trodAll_cons r7
  obtain ⟨rfl, rfl, rfl⟩ := trodAll_nil r8
  obtain rfl : args = #[v0, v1, v2, v3, v4, v5, v6, v7, v8] := by cases args; simp_all
  obtain ⟨rfl, rfl⟩ := trodVars_none hV
  obtain ⟨a0, rfl, rfl, rfl, w0⟩ := open_int Yba.underlying5 (hval 0 5 v0 rfl rfl) h0
  obtain ⟨a1, rfl, rfl, rfl, w1⟩ := open_int Yba.underlying5 (hval 1 5 v1 rfl rfl) h1
  obtain ⟨a2, rfl, rfl, rfl, w2⟩ := open_int Yba.underlying5 (hval 2 5 v2 rfl rfl) h2
  obtain ⟨a3, rfl, rfl, rfl, w3⟩ := open_int Yba.underlying5 (hval 3 5 v3 rfl rfl) h3
  obtain ⟨a4, rfl, rfl, rfl⟩ := open_bool Yba.underlying4 (hval 4 4 v4 rfl rfl) h4
  obtain ⟨a5, rfl, rfl, rfl⟩ := open_bool Yba.underlying4 (hval 5 4 v5 rfl rfl) h5
  obtain ⟨a6, l6, c6, rfl⟩ := okWide_slice Yba.underlying63 (hval 6 63 v6 rfl rfl)
  obtain ⟨a7, l7, c7, rfl⟩ := okWide_slice Yba.underlying64 (hval 7 64 v7 rfl rfl)
  obtain ⟨a8, l8, c8, rfl⟩ := okWide_slice Yba.underlying65 (hval 8 65 v8 rfl rfl)
  have lt6 : ∀ x ∈ p6, x.block < W.heap.size := by obtain ⟨m, hm⟩ := h6; exact DataW.trod_lt m _ _ _ hm
  have lt7 : ∀ x ∈ p7, x.block < W.heap.size := by obtain ⟨m, hm⟩ := h7; exact DataW.trod_lt m _ _ _ hm
  have lt8 : ∀ x ∈ p8, x.block < W.heap.size := by obtain ⟨m, hm⟩ := h8; exact DataW.trod_lt m _ _ _ hm
  obtain ⟨E, hE5, hel, hE⟩ := op_ints h6
  obtain ⟨Ra, Rl, Rp, R, hR5, hvl, hrl, hVv, hR⟩ := op_rows h7
  obtain ⟨B, hfl, hF⟩ := op_bools h8
  have e0 := bounds_u8 w0
  have e1 := bounds_u8 w1
  have e2 := bounds_u8 w2
  have e3 := bounds_u8 w3
  clear hA0 hval0 hA hval
  obtain ⟨nb, rfl⟩ : ∃ n : Nat, a0 = n := ⟨a0.toNat, by omega⟩
  obtain ⟨sb, rfl⟩ : ∃ n : Nat, a1 = n := ⟨a1.toNat, by omega⟩
  obtain ⟨fb, rfl⟩ : ∃ n : Nat, a2 = n := ⟨a2.toNat, by omega⟩
  obtain ⟨jb, rfl⟩ : ∃ n : Nat, a3 = n := ⟨a3.toNat, by omega⟩
  refine (A.law_c nb sb fb jb a4 a5 a6 a7 a8 l6 c6 l7 c7 l8 c8 E Ra Rl Rp R B W (by omega) (by omega) (by omega) (by omega) hE hE5 hVv hR hR5 hF).mono fun e W' ⟨he, bel⟩ => ?_
  subst he
  exact ⟨_, rfl, _, _, _, [], _, [], hW', trodAll_mk1 (shut_bool Yba.underlying4 _), (trodAll_cons_mk (shut_int Yba.underlying5 w0) (trodAll_cons_mk (shut_int Yba.underlying5 w1) (trodAll_cons_mk (shut_int Yba.underlying5 w2) (trodAll_cons_mk (shut_int Yba.underlying5 w3) (trodAll_cons_mk (shut_bool Yba.underlying4 _) (trodAll_cons_mk (shut_bool Yba.underlying4 _)
    (trodAll_cons_mk (Below.trod laidOut (by kernel_rfl) (of_decide_eq_true (by kernel_rfl)) h6 bel lt6) (trodAll_cons_mk (Below.trod laidOut (by kernel_rfl) (of_decide_eq_true (by kernel_rfl)) h7 bel lt7) (trodAll_cons_mk (Below.trod laidOut (by kernel_rfl) (of_decide_eq_true (by kernel_rfl)) h8 bel lt8) trodAll_mk0))))))))), rfl, bel.frame _, fun h => by cases h⟩

theorem over : Rows.lawS6297CWholeRow.holds Yba.pinned (OpenSpec.ofChange Rows.lawS6297CWholeSpec) :=
  OpenClaim.holds_of_wide 5 Yba.f5 rfl rfl rfl rfl rfl rfl rfl ⟨rfl, rfl, rfl, rfl, rfl⟩ rfl rfl rfl rfl rfl (by kernel_rfl) Yba.func5 (by kernel_rfl)
    (of_decide_eq_true (by kernel_rfl)) (by unfold Func.isWrapper; first | (rw [if_pos (by decide +kernel)]; kernel_rfl) | (rw [if_neg (by decide +kernel)]; exact ⟨rfl, rfl⟩))
    (fun os started H enc _ => lifted os started H enc)

/-- ████ THE STATEMENT ████ -/
theorem proved : Rows.LawS6297CWholeSaid := over
end Go.Proofs.Ybulkdzjs.lawS6297CWhole

/- The proof of Rows.LawS6299AWholeSaid, after the kit's shell: the array of four by value is opened and shut by two lemmas of its own. -/
import Derived.Test.YbulkdzkuRows
import Derived.WalkKit
import Derived.ProofKit
import Derived.OpenShut
import Derived.Laws.IdiomArrays
import Derived.Lib.SmallJoins
import Derived.Test.YbulkdzkuA
import Derived.ShutString
namespace Go.Proofs.Ybulkdzku.lawS6299AWhole
open Go.ChangeShapes Go.WideShapes Go.ChangeAt Go.RowKit
open Go.ChangeMaps (open_string shut_string)
set_option linter.unusedVariables false      -- a walk need not use every 'w<i>' (that an integer argument fits its kind)

theorem own : ownKnob Yba.prog.godebug = none := by kernel_rfl

theorem Yba.cells23 : Yba.prog.cellsOf 23 = 1 := by kernel_rfl
theorem Yba.cells24 : Yba.prog.cellsOf 24 = 4 := by kernel_rfl
theorem okWide_array {P : Program} {w : World} {r : Reach} {base : Nat} {t e : TypeId} {n : Nat} {v : Value} (ht : P.underlying t = some (.array n e)) (h : Value.okWide P w r base t v) : ∃ cs, v = .agg cs ∧ cs.size = P.cellsOf t := by
  simp only [Value.okWide, ht] at h
  obtain ⟨cs, h1, h2, _⟩ := h
  exact ⟨cs, h1, h2⟩
theorem open_rs {H : Type} {enc : TypeId × Value → H} {W : World} {r : Reach} {b0 base : Nat} {spare : Nat → Bool} {held : Bool} {v : Value} {d : DataW H} {p : List MemPlace} (hv : Value.okWide Yba.prog W r b0 24 v) (h : DataW.Trod enc Yba.prog W base spare held 24 v d p) :
    ∃ r0 r1 r2 r3 : Int, v = .agg #[.int .u32 r0, .int .u32 r1, .int .u32 r2, .int .u32 r3] ∧ d = .agg [.lit (.int .u32 r0), .lit (.int .u32 r1), .lit (.int .u32 r2), .lit (.int .u32 r3)] ∧ p = [] ∧
      (Lit.int .u32 r0).wf = true ∧ (Lit.int .u32 r1).wf = true ∧ (Lit.int .u32 r2).wf = true ∧ (Lit.int .u32 r3).wf = true := by
  obtain ⟨cs, rfl, hsz⟩ := okWide_array Yba.underlying24 hv
  obtain ⟨c0, c1, c2, c3, rfl⟩ := Joins.array4 (hsz.trans Yba.cells24)
  obtain ⟨fuel, hf⟩ := h
  obtain ⟨y0, y1, y2, y3, n, hx, t0, t1, t2, t3⟩ := trod_array4 Yba.underlying24 Yba.cells23 (by simpa [Value.cells] using hf)
  obtain ⟨r0, e0, rfl, k0⟩ := DataW.trod_int Yba.underlying23 t0
  obtain ⟨r1, e1, rfl, k1⟩ := DataW.trod_int Yba.underlying23 t1
  obtain ⟨r2, e2, rfl, k2⟩ := DataW.trod_int Yba.underlying23 t2
  obtain ⟨r3, e3, rfl, k3⟩ := DataW.trod_int Yba.underlying23 t3
  simp at e0 e1 e2 e3
  subst e0 e1 e2 e3
  simp only [Prod.mk.injEq] at hx
  exact ⟨r0, r1, r2, r3, rfl, hx.1, by simpa using hx.2, k0, k1, k2, k3⟩
theorem shut_rs {H : Type} {enc : TypeId × Value → H} {W : World} {base : Nat} {spare : Nat → Bool} {held : Bool} {r0 r1 r2 r3 : Int} (k0 : (Lit.int .u32 r0).wf = true) (k1 : (Lit.int .u32 r1).wf = true) (k2 : (Lit.int .u32 r2).wf = true) (k3 : (Lit.int .u32 r3).wf = true) :
    DataW.Trod enc Yba.prog W base spare held 24 (.agg #[.int .u32 r0, .int .u32 r1, .int .u32 r2, .int .u32 r3]) (.agg [.lit (.int .u32 r0), .lit (.int .u32 r1), .lit (.int .u32 r2), .lit (.int .u32 r3)]) [] := by
  have r4 : List.range 4 = [0, 1, 2, 3] := rfl
  exact ⟨2, by simp [DataW.trod, Value.cells, Yba.underlying24, Yba.underlying23, Yba.cells23, Yba.cells24, r4, k0, k1, k2, k3]⟩

/-! ### THE ROW's STEP: WRITTEN OUT: LEAVE IT -/
set_option maxRecDepth 100000 in
theorem lifted (os : Os) (started : os.Started) (H : Type) (enc : TypeId × Value → H) :
    ReturnsInHanded {} Yba.checked os 3 .any (Rows.lawS6299AWholeSpec.pre6 enc Yba.prog Yba.f3 Rows.lawS6299AWholeRow.domain false) (Rows.lawS6299AWholeSpec.post enc Yba.prog Yba.f3 false true false false) := by
  refine returnsInHanded_of_change (C := Yba.checked) own started (by kernel_rfl) Yba.func3
    (ChangeSpec.witness6 (enc := enc) (C := Yba.checked) false ⟨#[], #[.int .u64 0, .agg #[.int .u32 0, .int .u32 0, .int .u32 0, .int .u32 0], .int .i64 0, .int .i64 0, .int .u64 0, .int .i64 0, .int .u8 0], []⟩ 8 (by kernel_rfl) (by kernel_rfl) (by kernel_rfl) (by kernel_rfl)) ?_
  intro W base args ds gs before hval0 hW hcnd _
  have hval : ∀ (j : Nat) t v, Yba.f3.params[j]? = some t → args[j]? = some v → Value.okWide Yba.prog W .any base t v := hval0
  have hW' := hW
  obtain ⟨p, q, hA0, hV, rfl, hfz, hnd⟩ := hW
  have hA : DataW.TrodAll enc Yba.prog W 0 (fun _ => true) true Yba.f3.params.toList args.toList ds p := hA0
  rw [Yba.params3] at hA hval
  obtain ⟨v0, vs0, d0, ds0, p0, q0, hargs, rfl, rfl, h0, r0⟩ := trodAll_cons hA
  obtain ⟨v1, vs1, d1, ds1, p1, q1, rfl, rfl, rfl, h1, r1⟩ := trodAll_cons r0
  obtain ⟨v2, vs2, d2, ds2, p2, q2, rfl, rfl, rfl, h2, r2⟩ := trodAll_cons r1
  obtain ⟨v3, vs3, d3, ds3, p3, q3, rfl, rfl, rfl, h3, r3⟩ := trodAll_cons r2
  obtain ⟨v4, vs4, d4, ds4, p4, q4, rfl, rfl, rfl, h4, r4⟩ := trodAll_cons r3
  obtain ⟨v5, vs5, d5, ds5, p5, q5, rfl, rfl, rfl, h5, r5⟩ := trodAll_cons r4
  obtain ⟨v6, vs6, d6, ds6, p6, q6, rfl, rfl, rfl, h6, r6⟩ := trodAll_cons r5
  obtain ⟨rfl, rfl, rfl⟩ := trodAll_nil r6
  obtain rfl : args = #[v0, v1, v2, v3, v4, v5, v6] := by cases args; simp_all
  obtain ⟨rfl, rfl⟩ := trodVars_none hV
  obtain ⟨a0, rfl, rfl, rfl, w0⟩ := open_int Yba.underlying22 (hval 0 22 v0 rfl rfl) h0
  obtain ⟨s0, s1, s2, s3, rfl, rfl, rfl, k0, k1, k2, k3⟩ := open_rs (hval 1 24 v1 rfl rfl) h1
  obtain ⟨a2, rfl, rfl, rfl, w2⟩ := open_int Yba.underlying3 (hval 2 3 v2 rfl rfl) h2
  obtain ⟨a3, rfl, rfl, rfl, w3⟩ := open_int Yba.underlying3 (hval 3 3 v3 rfl rfl) h3
  obtain ⟨a4, rfl, rfl, rfl, w4⟩ := open_int Yba.underlying22 (hval 4 22 v4 rfl rfl) h4
  obtain ⟨a5, rfl, rfl, rfl, w5⟩ := open_int Yba.underlying3 (hval 5 3 v5 rfl rfl) h5
  obtain ⟨a6, rfl, rfl, rfl, w6⟩ := open_int Yba.underlying5 (hval 6 5 v6 rfl rfl) h6
  clear hA0 hval0
  simp only [List.append_nil] at hW'
  refine (law_walk a0 s0 s1 s2 s3 a2 a3 a4 a5 a6 W (bounds_u64 w4).1 (bounds_u64 w4).2).mono fun e W' ⟨he, hg⟩ => ?_
  subst he
  exact ⟨_, rfl, post_of_same (pa := []) (pv := []) hW' (fun _ _ _ => (trodAll_cons_mk (shut_bool Yba.underlying4 _) trodAll_mk0)) (fun sp _ => (trodAll_cons_mk (shut_int Yba.underlying22 w0) (trodAll_cons_mk (shut_rs k0 k1 k2 k3) (trodAll_cons_mk (shut_int Yba.underlying3 w2) (trodAll_cons_mk (shut_int Yba.underlying3 w3) (trodAll_cons_mk (shut_int Yba.underlying22 w4) (trodAll_cons_mk (shut_int Yba.underlying3 w5) (trodAll_cons_mk (shut_int Yba.underlying5 w6) trodAll_mk0)))))))) (fun _ _ => rfl) rfl
    (hg.frame _) hg.2.1 (ok_one (by kernel_rfl) rfl (okWide_bool_mk Yba.underlying4 _))⟩

theorem over : Rows.lawS6299AWholeRow.holds Yba.pinned (OpenSpec.ofChange Rows.lawS6299AWholeSpec) :=
  OpenClaim.holds_of_wide 3 Yba.f3 rfl rfl rfl rfl rfl rfl rfl ⟨rfl, rfl, rfl, rfl, rfl⟩ rfl rfl rfl rfl rfl (by kernel_rfl) Yba.func3 (by kernel_rfl)
    (of_decide_eq_true (by kernel_rfl)) (by unfold Func.isWrapper; first | (rw [if_pos (by decide +kernel)]; kernel_rfl) | (rw [if_neg (by decide +kernel)]; exact ⟨rfl, rfl⟩))
    (fun os started H enc _ => lifted os started H enc)

/-- ████ THE STATEMENT ████ -/
theorem proved : Rows.LawS6299AWholeSaid :=
  over
end Go.Proofs.Ybulkdzku.lawS6299AWhole

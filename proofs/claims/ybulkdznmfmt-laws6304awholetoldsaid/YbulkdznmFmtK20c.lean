/- 6304A: two steps of a reading region: a whole key is loaded; two keys are compared. -/
import Derived.Test.YbulkdznmFmtK20b
import Derived.BigQuiet
import Derived.Deep.QuietTactic
namespace Go.Proofs.YbulkdznmFmt.A
open Go.RowKit

theorem quiet_load48 {o : Oper} {a : Act} {C : World → Prop} {K : Act → Prop} (x : Operand) (h : o.op = .load 48 x) (b off : Nat) (A : Array Value) (G : Nat → UInt8) (hA : Hid ((cl G 40).toArray = A))
    (hx : a.eval x = .pointer (some ⟨b, off, none⟩)) (hc : ∀ w, C w → By w b off 40 G) (hk : K (a.put o.dst (.agg A))) : o.quiet Ybaf.prog a C K := by
  refine ⟨.agg A, fun w hw => ?_, hk⟩
  have hl := run_loadVar_mid (P := Ybaf.prog) w b off 48 (cl G 40) _ (by_cells (hc w hw)) Ybaf.underlying48 rfl (by rw [cl_len]; kernel_rfl)
  rw [hA.out] at hl
  unfold Oper.quietAt execOp
  simp only [h, hx, Instr.loadAt, Instr.sureAddr, Sem.run_bind, Sem.run_pure, Result.andThen_ok, hl]
  exact ⟨rfl, rfl⟩
theorem neq48A {A : Array Value} {G : Nat → UInt8} (hA : Hid ((cl G 40).toArray = A)) (w : World) : (binOp .neq 48 (.agg A) (.agg A)).run Ybaf.prog w = .ok (.bool false) w := by
  have h := neq48L G w
  rw [← hA.out]
  have e : (cl G 40).toArray = #[.int .u8 (G 0).toNat, .int .u8 (G 1).toNat, .int .u8 (G 2).toNat, .int .u8 (G 3).toNat, .int .u8 (G 4).toNat, .int .u8 (G 5).toNat, .int .u8 (G 6).toNat, .int .u8 (G 7).toNat, .int .u8 (G 8).toNat, .int .u8 (G 9).toNat, .int .u8 (G 10).toNat, .int .u8 (G 11).toNat, .int .u8 (G 12).toNat, .int .u8 (G 13).toNat, .int .u8 (G 14).toNat, .int .u8 (G 15).toNat, .int .u8 (G 16).toNat, .int .u8 (G 17).toNat, .int .u8 (G 18).toNat, .int .u8 (G 19).toNat, .int .u8 (G 20).toNat, .int .u8 (G 21).toNat, .int .u8 (G 22).toNat, .int .u8 (G 23).toNat, .int .u8 (G 24).toNat, .int .u8 (G 25).toNat, .int .u8 (G 26).toNat, .int .u8 (G 27).toNat, .int .u8 (G 28).toNat, .int .u8 (G 29).toNat, .int .u8 (G 30).toNat, .int .u8 (G 31).toNat, .int .u8 (G 32).toNat, .int .u8 (G 33).toNat, .int .u8 (G 34).toNat, .int .u8 (G 35).toNat, .int .u8 (G 36).toNat, .int .u8 (G 37).toNat, .int .u8 (G 38).toNat, .int .u8 (G 39).toNat] := rfl
  rw [e]
  exact h
theorem quiet_neq48 {o : Oper} {a : Act} {C : World → Prop} {K : Act → Prop} (x y : Operand) (t : TypeId) (h : o.op = .binOp .neq 48 x y t) (A : Array Value) (G : Nat → UInt8) (hA : Hid ((cl G 40).toArray = A))
    (hx : a.eval x = .agg A) (hy : a.eval y = .agg A) (hk : K (a.put o.dst (.bool false))) : o.quiet Ybaf.prog a C K := by
  refine ⟨.bool false, fun w _ => ?_, hk⟩
  have hl := neq48A hA w
  have hg : (eqGuard .neq 48 x y (.agg A) (.agg A)).run Ybaf.prog w = .ok () w := by kernel_rfl
  unfold Oper.quietAt execOp
  simp only [h, hx, hy, Sem.run_bind, Sem.run_pure, Result.andThen_ok, hg, hl]
  exact ⟨rfl, rfl⟩
end Go.Proofs.YbulkdznmFmt.A

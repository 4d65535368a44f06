/- 6304A: rows of the call's own, 'make', small steps on worlds. -/
import Derived.Test.YbulkdznmFmtRows
import Derived.WalkKit
import Derived.WalkSpells
import Derived.WalkSmall
import Derived.WalkLawsBesides
import Derived.BigQuiet
import Derived.Deep.QuietTactic
import Derived.RegionTactic
import Derived.Deep.Draws
import Derived.Deep.DeepCutAuto
import Derived.Deep.CutBlock
import Derived.Deep.LoopGhost
import Derived.Deep.Light
import Derived.Laws.OwnMore
import Derived.OwnWalk
namespace Go.Proofs.YbulkdznmFmt.A
open Go.RowKit

theorem hide {p : Prop} (h : p) : Hid p := h
theorem below_cell {B : Nat} {w w' : World} (h : Below B w w') {b o : Nat} {u : Value} (hb : b < B) (hc : w.cell? ⟨b, o, none⟩ = some u) : w'.cell? ⟨b, o, none⟩ = some u := (h.cell (p := ⟨b, o, none⟩) hb).trans hc
theorem below_grown {w w' : World} (h : Below w.heap.size w w') (row : Option Nat) : w.grownBy w' row := ⟨h.os, h.tape, h.output, h.size, fun k hk _ => h.block k hk⟩
theorem grown_trans {a b c : World} {row : Option Nat} (h : a.grownBy b row) (k : b.grownBy c row) : a.grownBy c row :=
  ⟨k.os.trans h.os, k.tape.trans h.tape, k.output.trans h.output, Nat.le_trans h.size k.size, fun i hi hn => (k.block i (Nat.lt_of_lt_of_le hi h.size) hn).trans (h.block i hi hn)⟩
theorem grown_refl (w : World) (row : Option Nat) : w.grownBy w row := ⟨rfl, rfl, rfl, Nat.le_refl _, fun _ _ _ => rfl⟩
theorem grown_setCell (W : World) (b o : Nat) (v : Value) : W.grownBy (W.setCell ⟨b, o, none⟩ v) (some b) :=
  ⟨rfl, rfl, rfl, by simp, fun k _ hk => by
    simp only [World.setCell, Array.getElem?_modify]
    rw [if_neg (fun e => hk (by rw [e]))]⟩
theorem lt_of {w : World} {b o : Nat} {v : Value} (h : w.cell? ⟨b, o, none⟩ = some v) : b < w.heap.size := World.block_lt_of_cell? _ _ h
theorem bcell {w w' : World} (hb : Below w.heap.size w w') {b o : Nat} {v : Value} (h : w.cell? ⟨b, o, none⟩ = some v) : w'.cell? ⟨b, o, none⟩ = some v := below_cell hb (lt_of h) h

/-- A row of cells of the call's own: what each holds; none is frozen. -/
def Rw (w : World) (b n : Nat) (V : Nat → Value) : Prop := ∀ i, i < n → w.cell? ⟨b, i, none⟩ = some (V i) ∧ w.frozen? ⟨b, i, none⟩ = false
section
variable {w w' : World} {b n : Nat} {V : Nat → Value}
theorem Rw.lt (h : Rw w b n V) (hn : 0 < n) : b < w.heap.size := World.block_lt_of_cell? _ _ (h 0 hn).1
theorem Rw.congr {V' : Nat → Value} (h : Rw w b n V) (e : ∀ i, i < n → V i = V' i) : Rw w b n V' := fun i hi => ⟨by rw [← e i hi]; exact (h i hi).1, (h i hi).2⟩
theorem Rw.grown {row : Option Nat} (h : Rw w b n V) (hg : w.grownBy w' row) (hb : some b ≠ row) : Rw w' b n V := fun i hi => by
  have hlt := World.block_lt_of_cell? _ _ (h i hi).1
  exact ⟨(World.cell?_of_block (hg.block b hlt hb)).trans (h i hi).1, (World.frozen?_of_block (hg.block b hlt hb)).trans (h i hi).2⟩
theorem Rw.below (h : Rw w b n V) (hb : Below w.heap.size w w') : Rw w' b n V := h.grown (below_grown hb none) (by simp)
theorem Rw.set (h : Rw w b n V) (k : Nat) (_hk : k < n) (u : Value) : Rw (w.setCell ⟨b, k, none⟩ u) b n (fun i => if i = k then u else V i) := fun i hi => by
  refine ⟨?_, ?_⟩
  · show _ = some (if i = k then u else V i)
    by_cases e : i = k
    · subst e; rw [if_pos rfl]; exact World.cell?_setCell_same w _ _ (h i hi).1
    · rw [if_neg e, World.cell?_setCell_other w _ _ _ (by intro e'; injection e' with _ e2; exact e e2.symm)]; exact (h i hi).1
  · exact (World.frozen?_setCell w _ _ _).trans (h i hi).2
theorem Rw.other (h : Rw w b n V) {b' : Nat} (hb : b ≠ b') (k : Nat) (u : Value) : Rw (w.setCell ⟨b', k, none⟩ u) b n V := fun i hi => by
  refine ⟨?_, ?_⟩
  · rw [World.cell?_setCell_other w _ _ _ (by intro e'; injection e' with e1 _; exact hb e1.symm)]; exact (h i hi).1
  · exact (World.frozen?_setCell w _ _ _).trans (h i hi).2
theorem Rw.made (w : World) (z : Value) (T : TypeId) (n : Nat) (hz : z.cells = #[z]) : Rw (w.alloc (.cells (madeCells z.cells n) T)) w.heap.size n (fun _ => z) := fun i hi => by
  have h : (madeCells z.cells n)[i]? = some z := by rw [hz]; simp [madeCells, hi, Nat.mod_one]
  exact ⟨(World.cell?_alloc_at (w := w) _ T _ i rfl).trans h, World.frozen?_alloc_at (w := w) _ T _ i rfl⟩
end
/-- The first a of v; zeros behind. -/
def pr {α : Type} (a : Nat) (v : Nat → α) (z : α) (k : Nat) : α := if k < a then v k else z
theorem pr_set {α : Type} (a : Nat) (v : Nat → α) (z : α) (k : Nat) : (if k = a then v a else pr a v z k) = pr (a + 1) v z k := by
  unfold pr
  by_cases e : k = a
  · subst e; rw [if_pos rfl, if_pos (by omega)]
  · rw [if_neg e]
    by_cases h : k < a
    · rw [if_pos h, if_pos (by omega)]
    · rw [if_neg h, if_neg (by omega)]
theorem pr_keep {α : Type} (a : Nat) (v : Nat → α) (z : α) (h : v a = z) : pr (a + 1) v z = pr a v z := by
  funext k
  rw [← pr_set]
  by_cases e : k = a
  · subst e; rw [if_pos rfl, h, pr, if_neg (by omega)]
  · rw [if_neg e]
theorem pr_at {α : Type} {a : Nat} {v : Nat → α} {z : α} {k : Nat} (h : k < a) : pr a v z k = v k := if_pos h
theorem pr_zero {α : Type} {v : Nat → α} {z : α} : pr 0 v z = fun _ => z := by funext k; exact if_neg (by omega)
theorem pr_end {α : Type} {a : Nat} {v : Nat → α} {z : α} {k : Nat} (h : a ≤ k) : pr a v z k = z := if_neg (by omega)

theorem wpList_make_rw {P : Program} (w : World) {ops : Array Oper} {rest : List Oper} {o : Oper} {a : Act} {Q : Exit → Act → World → Prop}
    (hg : o.guard = none) (l : Operand) (t : TypeId) (hop : o.op = Op.makeSlice t l l) (e : TypeId) (i : TypeInfo) (z : Value) (h1 : P.underlying t = some (.slice e)) (h2 : P.info? e = some i) (h3 : i.zero = some z) (h4 : i.size = 1) (hz : z.cells = #[z])
    (n : Nat) (hl : a.eval l = .int .i64 (n : Int)) (b2 : i.bytes * n ≤ 281474976710656) (b3 : n ≤ 1000000)
    (hK : ∀ w', Rw w' w.heap.size n (fun _ => z) → Below w.heap.size w w' → w.heap.size < w'.heap.size → wpList P ops Q rest (a.put o.dst (.slice (some ⟨w.heap.size, 0, none⟩) n n)) w') :
    wpList P ops Q (o :: rest) a w := by
  refine wpList_plain hg fun K hK' => ?_
  have hb : (i.bytes : Int) * (n : Int) ≤ 281474976710656 := by rw [← Int.natCast_mul]; exact Int.ofNat_le.mpr b2
  have hrun := run_make (P := P) w t e i z h1 h2 h3 .i64 .i64 (n : Int) (n : Int) (by omega) (Int.le_refl _) hb (by omega)
  unfold Oper.wp
  simp only [Int.toNat_natCast, h4, Nat.mul_one] at hrun
  simp [execOp, hop, hl, hrun, Result.andThen]
  exact hK' _ _ (hK _ (Rw.made w z e n hz) ((Below.refl _ _).alloc (Nat.le_refl _) _) (by simp))
end Go.Proofs.YbulkdznmFmt.A

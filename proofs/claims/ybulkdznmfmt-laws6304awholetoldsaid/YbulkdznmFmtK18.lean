/- 6304A: the states of the function that builds a body. -/
import Derived.Test.YbulkdznmFmtK17
namespace Go.Proofs.YbulkdznmFmt.A
open Go.RowKit

/-- A body is being built; the scope's copy lies in block sp. -/
structure BL (w1 w : World) (v : Value) (n : Nat) (sp : Nat) (arr : Array Value) : Prop where
  b : Below w1.heap.size w1 w
  r : BR w w1.heap.size v n
  s : w.heap[sp]? = some (.cells arr 26 (0, 0))
  s0 : w1.heap.size ≤ sp
/-- .. and the ids lie in block ib. -/
structure BI (w1 w : World) (v : Value) (n : Nat) (sp : Nat) (arr : Array Value) (ib m : Nat) : Prop where
  l : BL w1 w v n sp arr
  i : ∃ xs, w.ownsRow w1.heap.size 40 8 (.slice (some ⟨ib, 0, none⟩) m m) m xs ∧ ∀ u ∈ xs, isB u

theorem heap_lt {w : World} {b : Nat} {x : Obj} (h : w.heap[b]? = some x) : b < w.heap.size := (Array.getElem?_eq_some_iff.1 h).1
theorem blk_cell {w : World} {b t k : Nat} {arr : Array Value} (h : w.heap[b]? = some (.cells arr t (0, 0))) : w.cell? ⟨b, k, none⟩ = arr[k]? := by
  simp [World.cell?, h]
theorem blk_frozen {w : World} {b t k : Nat} {arr : Array Value} (h : w.heap[b]? = some (.cells arr t (0, 0))) : w.frozen? ⟨b, k, none⟩ = false := by
  simp [World.frozen?, h]

section
variable {w1 w w' : World} {v v' : Value} {n n' sp ib m r : Nat} {arr : Array Value}
theorem BL.sz (h : BL w1 w v n sp arr) : w1.heap.size ≤ w.heap.size := h.b.size
theorem BL.step (h : BL w1 w v n sp arr) (hg : w.grownBy w' (some r)) (h0 : w1.heap.size ≤ r) (h1 : v.ownBlock ≠ some r) (h2 : sp ≠ r) : BL w1 w' v n sp arr :=
  ⟨below_by h.b hg (fun k e => by cases e; exact h0) h.sz, h.r.kept hg (Or.inr h1), (hg.block sp (heap_lt h.s) (by simpa using h2)).trans h.s, h.s0⟩
theorem BL.new (h : BL w1 w v n sp arr) (hg : w.grownBy w' (some r)) (hr : w.heap.size ≤ r) : BL w1 w' v n sp arr :=
  h.step hg (Nat.le_trans h.sz hr) (fun e => by have := (h.r.lt r e).2; omega) (by have := heap_lt h.s; omega)
theorem BL.app (h : BL w1 w v n sp arr) (hg : w.grownBy w' v.ownBlock) (hr : BR w' w1.heap.size v' n') : BL w1 w' v' n' sp arr :=
  ⟨below_by h.b hg (fun k e => (h.r.lt k e).1) h.sz, hr, (hg.block sp (heap_lt h.s) (fun e => h.r.tag h.s (by omega) e.symm)).trans h.s, h.s0⟩
theorem BI.ilt (h : BI w1 w v n sp arr ib m) : w1.heap.size ≤ ib ∧ ib < w.heap.size := by
  obtain ⟨xs, h1, _⟩ := h.i
  exact h1.lt ib rfl
theorem BI.tag (h : BI w1 w v n sp arr ib m) : v.ownBlock ≠ some ib := by
  obtain ⟨xs, h1, _⟩ := h.i
  exact h.l.r.tagM h1 rfl (by omega)
theorem BI.spn (h : BI w1 w v n sp arr ib m) : sp ≠ ib := by
  rintro rfl
  obtain ⟨xs, h1, _⟩ := h.i
  rcases h1.2 with ⟨e, _⟩ | ⟨g, cap, cur, e, _, hh, _⟩
  · cases e
  · cases e
    have := h.l.s
    rw [hh] at this
    cases this
theorem BI.step (h : BI w1 w v n sp arr ib m) (hl : BL w1 w' v n sp arr) (hg : w.grownBy w' (some r)) (h1 : ib ≠ r) : BI w1 w' v n sp arr ib m := by
  obtain ⟨xs, h2, h3⟩ := h.i
  exact ⟨hl, xs, h2.kept hg (Or.inr (by simpa [Value.ownBlock] using h1)), h3⟩
theorem BI.new (h : BI w1 w v n sp arr ib m) (hg : w.grownBy w' (some r)) (hr : w.heap.size ≤ r) : BI w1 w' v n sp arr ib m := h.step (h.l.new hg hr) hg (by have := h.ilt.2; omega)
theorem BI.app (h : BI w1 w v n sp arr ib m) (hg : w.grownBy w' v.ownBlock) (hr : BR w' w1.heap.size v' n') : BI w1 w' v' n' sp arr ib m := by
  obtain ⟨xs, h2, h3⟩ := h.i
  exact ⟨h.l.app hg hr, xs, h2.kept hg (Or.inr (by simpa [Value.ownBlock] using fun e => h.tag e.symm)), h3⟩
theorem BI.bs (h : BI w1 w v n sp arr ib m) (j : Nat) (hj : j < m) : Bs w ib (j * 8) 8 := fun k hk => by
  obtain ⟨xs, h2, h3⟩ := h.i
  have hl : j * 8 + k < xs.length := by rw [h2.1]; omega
  obtain ⟨z, hz, hz1⟩ := h3 (xs[j * 8 + k]) (List.getElem_mem hl)
  refine ⟨z, ?_, hz1⟩
  rw [h2.cellAt _ (by omega), List.getElem?_eq_getElem hl, hz]
theorem BI.fz (h : BI w1 w v n sp arr ib m) (k : Nat) : w.frozen? ⟨ib, k, none⟩ = false := by
  obtain ⟨xs, h2, _⟩ := h.i
  exact h2.frozenAt k
theorem BI.set (h : BI w1 w v n sp arr ib m) (k : Nat) (z : Int) (hz : 0 ≤ z ∧ z < 256) : BI w1 (w.setCell ⟨ib, k, none⟩ (.int .u8 z)) v n sp arr ib m := by
  have hg := grown_setCell w ib k (.int .u8 z)
  refine ⟨h.l.step hg h.ilt.1 h.tag h.spn, ?_⟩
  obtain ⟨xs, h2, h3⟩ := h.i
  have h4 := (h2.stored k (.int .u8 z)).1
  refine ⟨_, h4, fun u hu => ?_⟩
  rcases List.mem_or_eq_of_mem_set hu with hu | rfl
  · exact h3 u hu
  · exact ⟨z, rfl, hz⟩
theorem BI.start (h : BL w1 w v n sp arr) {xs : List Value} (hg : w.grownBy w' none) (own : w'.ownsRow w1.heap.size 40 8 (.slice (some ⟨w.heap.size, 0, none⟩) m m) m xs) (hx : ∀ u ∈ xs, isB u) : BI w1 w' v n sp arr w.heap.size m := by
  have hg' : w.grownBy w' (some w.heap.size) := ⟨hg.os, hg.tape, hg.output, hg.size, fun k hk _ => hg.block k hk (by simp)⟩
  exact ⟨h.new hg' (Nat.le_refl _), xs, own, hx⟩
end
theorem made_isB {z : Value} {n : Nat} (hz : ∀ u ∈ z.cells.toList, isB u) (h0 : 0 < z.cells.size) : ∀ u ∈ (madeCells z.cells n).toList, isB u := by
  intro u hu
  simp only [madeCells, Array.toList_map, List.mem_map] at hu
  obtain ⟨k, _, rfl⟩ := hu
  have hk : k % z.cells.size < z.cells.size := Nat.mod_lt _ h0
  have : z.cells[k % z.cells.size]! = z.cells[k % z.cells.size] := getElem!_pos z.cells _ hk
  rw [this]
  exact hz _ (by simp)
end Go.Proofs.YbulkdznmFmt.A

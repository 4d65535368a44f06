/- 6304A: .. and an array of bytes beside the row. -/
import Derived.Test.YbulkdznmFmtK18
namespace Go.Proofs.YbulkdznmFmt.A
open Go.RowKit

theorem Bs.set {w : World} {b o n k : Nat} {z : Int} (h : Bs w b o n) (hz : 0 ≤ z ∧ z < 256) : Bs (w.setCell ⟨b, k, none⟩ (.int .u8 z)) b o n := fun m hm => by
  obtain ⟨y, hy, hy1⟩ := h m hm
  by_cases e : o + m = k
  · subst e
    exact ⟨z, World.cell?_setCell_same w _ _ hy, hz⟩
  · exact ⟨y, by rw [World.cell?_setCell_other w _ _ _ (by intro e'; injection e' with _ e2; exact e e2.symm)]; exact hy, hy1⟩
theorem set_tag {w : World} {b k t : Nat} {u : Value} (h : ∃ arr, w.heap[b]? = some (.cells arr t (0, 0))) : ∃ arr, (w.setCell ⟨b, k, none⟩ u).heap[b]? = some (.cells arr t (0, 0)) := by
  obtain ⟨arr, h⟩ := h
  refine ⟨arr.setIfInBounds k u, ?_⟩
  simp only [World.setCell, Array.getElem?_modify, h]
  rfl

/-- An array of len bytes of the call's own lies in block xb. -/
structure BQ (w1 w : World) (v : Value) (n : Nat) (sp : Nat) (arr : Array Value) (ib m xb len tag : Nat) : Prop where
  bi : BI w1 w v n sp arr ib m
  bs : Bs w xb 0 len
  hp : ∃ parr, w.heap[xb]? = some (.cells parr tag (0, 0))
  x0 : w1.heap.size ≤ xb
  xi : xb ≠ ib
  xs : xb ≠ sp
section
variable {w1 w w' : World} {v v' : Value} {n n' sp ib m xb len tag : Nat} {arr : Array Value}
theorem BQ.start (h : BI w1 w v n sp arr ib m) (parr : Array Value) (hl : parr.size = len) (hz : ∀ u ∈ parr.toList, isB u) : BQ w1 (w.alloc (.cells parr tag)) v n sp arr ib m w.heap.size len tag := by
  refine ⟨h.new (alloc_grown w _ (some w.heap.size)) (Nat.le_refl _), fun k hk => ?_, ⟨parr, (MapKept.heap_alloc w _).1⟩, h.l.sz, by have := h.ilt.2; omega, by have := heap_lt h.l.s; omega⟩
  have hk' : k < parr.size := by omega
  obtain ⟨z, e, hz1⟩ := hz parr[k] (by simp)
  refine ⟨z, ?_, hz1⟩
  rw [World.cell?_alloc_at (w := w) _ tag _ (0 + k) rfl, Nat.zero_add, Array.getElem?_eq_getElem hk', e]
theorem BQ.own (h : BQ w1 w v n sp arr ib m xb len tag) (ht : tag ≠ 5) : v.ownBlock ≠ some xb := by
  obtain ⟨parr, hp⟩ := h.hp
  exact h.bi.l.r.tag hp ht
theorem BQ.fz (h : BQ w1 w v n sp arr ib m xb len tag) (k : Nat) : w.frozen? ⟨xb, k, none⟩ = false := by
  obtain ⟨parr, hp⟩ := h.hp
  exact blk_frozen hp
theorem BQ.set (h : BQ w1 w v n sp arr ib m xb len tag) (ht : tag ≠ 5) (k : Nat) (z : Int) (hz : 0 ≤ z ∧ z < 256) : BQ w1 (w.setCell ⟨xb, k, none⟩ (.int .u8 z)) v n sp arr ib m xb len tag := by
  have hg := grown_setCell w xb k (.int .u8 z)
  exact ⟨h.bi.step (h.bi.l.step hg h.x0 (h.own ht) h.xs.symm) hg h.xi.symm, h.bs.set hz, set_tag h.hp, h.x0, h.xi, h.xs⟩
theorem BQ.app (h : BQ w1 w v n sp arr ib m xb len tag) (ht : tag ≠ 5) (hg : w.grownBy w' v.ownBlock) (hr : BR w' w1.heap.size v' n') : BQ w1 w' v' n' sp arr ib m xb len tag := by
  have hne : some xb ≠ v.ownBlock := fun e => h.own ht e.symm
  refine ⟨h.bi.app hg hr, h.bs.grown hg hne, ?_, h.x0, h.xi, h.xs⟩
  obtain ⟨parr, hp⟩ := h.hp
  exact ⟨parr, (hg.block xb (heap_lt hp) hne).trans hp⟩
theorem BQ.new {r : Nat} (h : BQ w1 w v n sp arr ib m xb len tag) (hg : w.grownBy w' (some r)) (hr : w.heap.size ≤ r) : BQ w1 w' v n sp arr ib m xb len tag := by
  obtain ⟨parr, hp⟩ := h.hp
  have hlt := heap_lt hp
  exact ⟨h.bi.new hg hr, h.bs.grown hg (by simp; omega), ⟨parr, (hg.block xb hlt (by simp; omega)).trans hp⟩, h.x0, h.xi, h.xs⟩
end
end Go.Proofs.YbulkdznmFmt.A

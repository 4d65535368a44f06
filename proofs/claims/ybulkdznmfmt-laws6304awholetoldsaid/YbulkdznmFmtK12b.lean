/- 6304A: the model's states between the loops' heads. -/
import Derived.Test.YbulkdznmFmtK12
namespace Go.Proofs.YbulkdznmFmt.A
open Go.RowKit

/-- An entry has been begun in block eb. -/
structure ES (w0 w : World) (B : Nat → UInt8) (mb : Nat) (ov : Value) (es : List (Nat × Nat)) (seen : List (List UInt8)) (eb p : Nat) : Prop where
  ms : MS w0 w B mb ov es seen
  e0 : w.cell? ⟨eb, 0, none⟩ = some (.string (nm B p))
  e9 : w.cell? ⟨eb, 9, none⟩ = some (.slice none 0 0)
  ef : w.frozen? ⟨eb, 9, none⟩ = false
  eb0 : w0.heap.size ≤ eb
  d1 : ∀ e ∈ es, e.2 < eb
  d2 : ov.ownBlock ≠ some eb

def ent0 (s : ByteArray) : Array Value := #[.string s, .int .u8 0, .int .u8 0, .int .u8 0, .int .u8 0, .int .u8 0, .int .u8 0, .int .u8 0, .int .u8 0, .slice none 0 0]
section
variable {w0 w w' : World} {B : Nat → UInt8} {mb : Nat} {ov : Value} {es : List (Nat × Nat)} {seen : List (List UInt8)} {eb p r : Nat}
theorem alloc_grown (w : World) (o : Obj) (row : Option Nat) : w.grownBy (w.alloc o) row := World.grownBy_alloc w o row
theorem ES.start (h : MS w0 w B mb ov es seen) : ES w0 (w.alloc (.cells (ent0 (nm B p)) 43)) B mb ov es seen w.heap.size p ∧ ∀ m, m < 8 → ((w.alloc (.cells (ent0 (nm B p)) 43)).cell? ⟨w.heap.size, 1 + m, none⟩).isSome = true ∧ (w.alloc (.cells (ent0 (nm B p)) 43)).frozen? ⟨w.heap.size, 1 + m, none⟩ = false := by
  refine ⟨⟨h.new (alloc_grown w _ (some w.heap.size)) (Nat.le_refl _), ?_, ?_, ?_, h.sz, fun e he => h.klt he, fun e => by have := (h.own.lt _ e).2; omega⟩, fun m hm => ⟨?_, ?_⟩⟩
  · exact (World.cell?_alloc_at (w := w) _ 43 _ 0 rfl).trans rfl
  · exact (World.cell?_alloc_at (w := w) _ 43 _ 9 rfl).trans rfl
  · exact World.frozen?_alloc_at (w := w) _ 43 _ 9 rfl
  · rw [World.cell?_alloc_at (w := w) _ 43 _ (1 + m) rfl]
    rcases m with _ | _ | _ | _ | _ | _ | _ | _ | m <;> first | rfl | omega
  · exact World.frozen?_alloc_at (w := w) _ 43 _ (1 + m) rfl
theorem ES.elt (h : ES w0 w B mb ov es seen eb p) : eb < w.heap.size := lt_of h.e0
theorem ES.copied {f : Nat → UInt8} (h : ES w0 w B mb ov es seen eb p) (hc : Cpd w w' eb 1 8 f) : ES w0 w' B mb ov es seen eb p :=
  ⟨h.ms.step hc.gr h.eb0 (h.ms.m.ne h.e0).symm (fun e he => by have := h.d1 e he; omega) h.d2, (hc.out _ (fun _ _ => Or.inl (by simp))).trans h.e0, (hc.out _ (fun _ _ => Or.inr (by simp))).trans h.e9, (hc.fr _).trans h.ef, h.eb0, h.d1, h.d2⟩
theorem ES.grown (h : ES w0 w B mb ov es seen eb p) (hg : w.grownBy w' (some r)) (hr : w.heap.size ≤ r) : ES w0 w' B mb ov es seen eb p := by
  have he := hg.block eb h.elt (by have := h.elt; simp; omega)
  exact ⟨h.ms.new hg hr, (World.cell?_of_block he).trans h.e0, (World.cell?_of_block he).trans h.e9, (World.frozen?_of_block he).trans h.ef, h.eb0, h.d1, h.d2⟩
theorem ES.below (h : ES w0 w B mb ov es seen eb p) (hb : Below w.heap.size w w') : ES w0 w' B mb ov es seen eb p := h.grown (below_grown hb (some w.heap.size)) (Nat.le_refl _)
theorem IS.start (h : ES w0 w B mb ov es seen eb p) (ep : By w eb 1 8 (fr B (prim B p))) (hg : w.grownBy w' none) (own : w'.ownsRow w0.heap.size 48 40 (.slice (some ⟨w.heap.size, 0, none⟩) 0 (nk B p)) 0 []) :
    IS w0 (w'.setCell ⟨eb, 9, none⟩ (.slice (some ⟨w.heap.size, 0, none⟩) 0 (nk B p))) B mb ov es seen eb w.heap.size p 0 := by
  have hg' : w.grownBy w' (some w.heap.size) := ⟨hg.os, hg.tape, hg.output, hg.size, fun k hk _ => hg.block k hk (by simp)⟩
  have h' := h.grown hg' (Nat.le_refl _)
  have hg2 := grown_setCell w' eb 9 (.slice (some ⟨w.heap.size, 0, none⟩) 0 (nk B p))
  have helt := h.elt
  refine ⟨h'.ms.step hg2 h.eb0 (h'.ms.m.ne h'.e0).symm (fun e he => by have := h.d1 e he; omega) h.d2, ?_, fun m hm => ?_, ?_, ?_, ?_, h.eb0, fun e he => ⟨by have := h.d1 e he; omega, by have := h.d1 e he; omega⟩, ⟨h.d2, fun e => by have := (h.ms.own.lt _ e).2; omega⟩, by omega⟩
  · rw [World.cell?_setCell_other _ _ _ _ (by simp)]; exact h'.e0
  · rw [World.cell?_setCell_other _ _ _ _ (by intro e2; injection e2 with _ e3; omega)]; exact ep.grown hg' (by simp; omega) m hm
  · exact World.cell?_setCell_same w' _ _ h'.e9
  · rw [frozen_set]; exact h'.ef
  · refine World.ownsRow.kept (w' := w'.setCell ⟨eb, 9, none⟩ (.slice (some ⟨w.heap.size, 0, none⟩) 0 (nk B p))) own hg2 (Or.inr ?_)
    simp [Value.ownBlock]; omega
/-- The entry is whole: it goes into the row. -/
theorem IS.cells {kb : Nat} (h : IS w0 w B mb ov es seen eb kb p (nk B p)) : ∀ j v, (entc B p kb)[j]? = some v → w.cell? ⟨eb, 0 + j, none⟩ = some v := by
  intro j v hv
  rw [Nat.zero_add]
  rcases j with _ | j
  · simp [entc] at hv
    rw [← hv]
    exact h.e0
  · rcases Nat.lt_or_ge j 8 with hj | hj
    · have : (entc B p kb)[j + 1]? = (cl (fr B (prim B p)) 8)[j]? := by simp only [entc, List.getElem?_cons_succ]; rw [List.getElem?_append_left (by simpa using hj)]
      rw [this, cl_get _ _ _ hj] at hv
      cases hv
      have := h.ep j hj
      rw [Nat.add_comm] at this
      exact this
    · have hj' : j = 8 := by
        have := (List.getElem?_eq_some_iff.1 hv).1
        rw [entc_len] at this
        omega
      subst hj'
      have : (entc B p kb)[9]? = some (.slice (some ⟨kb, 0, none⟩) (nk B p) (nk B p)) := by simp [entc]
      rw [this] at hv
      cases hv
      exact h.e9
theorem IS.done {kb : Nat} {ov' : Value} (h : IS w0 w B mb ov es seen eb kb p (nk B p)) (hn : 0 < nk B p) (hg : w.grownBy w' ov.ownBlock) (own : w'.ownsRow w0.heap.size 43 10 ov' (es.length + 1) (flat B es ++ entc B p kb)) :
    MS w0 w' B mb ov' (es ++ [(p, kb)]) seen := by
  have hmb : ov.ownBlock ≠ some mb := by
    intro e
    rcases h.ms.own.2 with ⟨rfl, _⟩ | ⟨g, cap, cur, rfl, _, hh, _⟩
    · simp [Value.ownBlock] at e
    · obtain rfl : g = mb := by simpa [Value.ownBlock] using e
      obtain ⟨es', ck, hh', _⟩ := h.ms.m
      rw [hh] at hh'
      cases hh'
  have hk0 : w0.heap.size ≤ kb := (h.kr.lt kb rfl).1
  have hkb : By w kb 0 (nk B p * 40) (fr B (hdr B p)) := fun m hm => by
    rw [Nat.zero_add, h.kr.cellAt m hm, cl_get _ _ _ hm]
  refine ⟨below_by h.ms.b hg (fun k e => (h.ms.own.lt k e).1) h.ms.sz, h.ms.m.grown hg (fun e => hmb e.symm), h.ms.mb0, h.ms.s8, ?_, fun e he => ?_⟩
  · rw [List.length_append, List.length_singleton, flat_add]
    exact own
  · rcases List.mem_append.1 he with he | he
    · refine ⟨(h.ms.ks e he).1.grown hg (fun e' => ?_), (h.ms.ks e he).2⟩
      -- the row of entries begins with a string; a row of keys with a byte
      have hc := (h.ms.ks e he).1 0 (by have := (h.ms.ks e he).2.2; omega)
      have hlen : 0 < es.length := List.length_pos_of_mem he
      rcases h.ms.own.2 with ⟨rfl, _⟩ | ⟨g, cap, cur, rfl, _, _, _⟩
      · simp [Value.ownBlock] at e'
      · obtain rfl : e.2 = g := by simpa [Value.ownBlock] using e'
        obtain ⟨⟨p0, k0⟩, es', rfl⟩ : ∃ a l, es = a :: l := by
          cases es with
          | nil => simp at hlen
          | cons a l => exact ⟨a, l, rfl⟩
        have hs := h.ms.own.cellAt 0 (by simp)
        rw [show (0 : Nat) + 0 = 0 from rfl, hs] at hc
        have := flat_get B ((p0, k0) :: es') 0 p0 k0 0 (by simp) (by omega)
        rw [Nat.zero_mul, Nat.zero_add] at this
        rw [this] at hc
        simp [entc] at hc
    · obtain rfl : e = (p, kb) := by simpa using he
      exact ⟨hkb.grown hg (fun e => h.d2.2 e.symm), hk0, hn⟩
end
end Go.Proofs.YbulkdznmFmt.A

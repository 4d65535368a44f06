/- 6304A: decodeKeyringBody's states within the inner loop. -/
import Derived.Test.YbulkdznmFmtK14
namespace Go.Proofs.YbulkdznmFmt.A
open Go.RowKit

/-- The id of key j is read, its bytes are not. -/
structure RS (w0 w : World) (B : Nat → UInt8) (g o N c T : Nat) (x : Value) (db sm im : Nat) (es : List (Nat × Nat × Nat)) (seen : List (List UInt8)) (sb kb p j : Nat) : Prop where
  ds : DS w0 w B g o N c T x db sm im (some (hdr B p + j * 40 + 8)) es seen
  ss : SS w sb (fr B (prim B p)) (.slice (some ⟨kb, 0, none⟩) (nk B p) (nk B p))
  ky : By w kb 0 (j * 40) (fr B (hdr B p))
  k1 : By w kb (j * 40) 8 (fr B (hdr B p + j * 40))
  ho : Hole w kb 0 (nk B p * 40)
  ol : ∀ e ∈ es, e.2.1 < sb ∧ e.2.2 < sb
  od : db < sb
  om : sm < sb
  oi : im < sb
  ok : sb < kb
  o0 : w0.heap.size ≤ sb
section
variable {w0 w w1 w2 : World} {B : Nat → UInt8} {g o N c T : Nat} {x : Value} {db sm im : Nat} {es : List (Nat × Nat × Nat)} {seen : List (List UInt8)} {sb kb p j : Nat}
theorem IDS.read8 (h : IDS w0 w B g o N c T x db sm im es seen sb kb p j) (hg : w.grownBy w1 (some db)) (D : Dec w1 db g o N c T x (some (hdr B p + j * 40 + 8))) (hc : Cpd w1 w2 kb (j * 40) 8 (fr B (hdr B p + j * 40))) :
    RS w0 w2 B g o N c T x db sm im es seen sb kb p j := by
  have h1 := h.od
  have h2 := h.om
  have h3 := h.oi
  have h4 := h.ok
  have h5 := h.o0
  exact ⟨(h.ds.dec hg D).step hc.gr (by omega) (by omega) (by omega) (by omega) (fun e he => by have := h.ol e he; omega),
    (h.ss.grown hg (by omega)).grown hc.gr (by omega), (h.ky.grown hg (by simp; omega)).over hc (Nat.le_refl _), hc.in_, (h.ho.grown hg (by simp; omega)).over hc, h.ol, h1, h2, h3, h4, h5⟩
theorem RS.read32 (h : RS w0 w B g o N c T x db sm im es seen sb kb p j) (hg : w.grownBy w1 (some db)) (D : Dec w1 db g o N c T x (some (hdr B p + j * 40 + 8 + 32))) (hc : Cpd w1 w2 kb (j * 40 + 8) 32 (fr B (hdr B p + j * 40 + 8))) :
    IDS w0 w2 B g o N c T x db sm im es seen sb kb p (j + 1) := by
  have h1 := h.od
  have h2 := h.om
  have h3 := h.oi
  have h4 := h.ok
  have h5 := h.o0
  have D' : Dec w1 db g o N c T x (some (hdr B p + (j + 1) * 40)) := by
    rw [show hdr B p + (j + 1) * 40 = hdr B p + j * 40 + 8 + 32 by omega]
    exact D
  refine ⟨(h.ds.dec hg D').step hc.gr (by omega) (by omega) (by omega) (by omega) (fun e he => by have := h.ol e he; omega),
    (h.ss.grown hg (by omega)).grown hc.gr (by omega), fun m hm => ?_, (h.ho.grown hg (by simp; omega)).over hc, h.ol, h1, h2, h3, h4, h5⟩
  rw [Nat.zero_add]
  have hk : some kb ≠ some db := by simp; omega
  rcases Nat.lt_or_ge m (j * 40) with hm1 | hm1
  · rw [hc.out _ (fun _ _ => Or.inl (by simp; omega))]
    have := h.ky.grown hg hk m hm1
    rwa [Nat.zero_add] at this
  · rcases Nat.lt_or_ge m (j * 40 + 8) with hm2 | hm2
    · rw [hc.out _ (fun _ _ => Or.inl (by simpa using hm2))]
      have := h.k1.grown hg hk (m - j * 40) (by omega)
      rw [show j * 40 + (m - j * 40) = m by omega] at this
      rw [this]
      unfold fr
      rw [show hdr B p + j * 40 + (m - j * 40) = hdr B p + m by omega]
    · have := hc.in_ (m - (j * 40 + 8)) (by omega)
      rw [show j * 40 + 8 + (m - (j * 40 + 8)) = m by omega] at this
      rw [this]
      unfold fr
      rw [show hdr B p + j * 40 + 8 + (m - (j * 40 + 8)) = hdr B p + m by omega]
theorem own_hole {base b n : Nat} {xs : List Value} (h : w.ownsRow base 48 40 (.slice (some ⟨b, 0, none⟩) n n) n xs) : Hole w b 0 (n * 40) := fun m hm => by
  rw [Nat.zero_add, h.cellAt m hm]
  exact ⟨by rw [List.getElem?_eq_getElem (by rw [h.1]; exact hm)]; rfl, h.frozenAt m⟩
theorem IDS.start {xs : List Value} (h : DS w0 w B g o N c T x db sm im (some (hdr B p)) es seen) (hs : SS w sb (fr B (prim B p)) (.slice none 0 0)) (ol : ∀ e ∈ es, e.2.1 < sb ∧ e.2.2 < sb) (od : db < sb) (om : sm < sb) (oi : im < sb) (o0 : w0.heap.size ≤ sb)
    (hg : w.grownBy w1 none) (own : w1.ownsRow w0.heap.size 48 40 (.slice (some ⟨w.heap.size, 0, none⟩) (nk B p) (nk B p)) (nk B p) xs) :
    IDS w0 (w1.setCell ⟨sb, 8, none⟩ (.slice (some ⟨w.heap.size, 0, none⟩) (nk B p) (nk B p))) B g o N c T x db sm im es seen sb w.heap.size p 0 := by
  have hg' : w.grownBy w1 (some w.heap.size) := ⟨hg.os, hg.tape, hg.output, hg.size, fun k hk _ => hg.block k hk (by simp)⟩
  have hlt := lt_of hs.k8
  have hs1 := hs.grown hg' (by omega)
  have hg2 := grown_setCell w1 sb 8 (.slice (some ⟨w.heap.size, 0, none⟩) (nk B p) (nk B p))
  refine ⟨?_, ⟨fun m hm => ?_, World.cell?_setCell_same w1 _ _ hs1.k8, by rw [frozen_set]; exact hs1.fz⟩, fun m hm => absurd hm (by omega), (own_hole own).grown hg2 (by simp; omega), ol, od, om, oi, by omega, o0⟩
  · rw [Nat.zero_mul, Nat.add_zero]
    exact (h.new hg' (Nat.le_refl _)).step hg2 o0 (by omega) (by omega) (by omega) (fun e he => by have := ol e he; omega)
  · rw [World.cell?_setCell_other _ _ _ _ (by intro e2; injection e2 with _ e3; omega)]
    exact hs1.pr m hm
/-- All keys are read: the scope is whole. -/
theorem IDS.scp (h : IDS w0 w B g o N c T x db sm im es seen sb kb p (nk B p)) (hn : 0 < nk B p) : Scp w B (p, sb, kb) := ⟨h.ss.pr, h.ss.k8, h.ky, hn⟩
theorem IDS.below (h : IDS w0 w B g o N c T x db sm im es seen sb kb p j) (hb : Below w.heap.size w w1) (hk : 0 < nk B p) : IDS w0 w1 B g o N c T x db sm im es seen sb kb p j := by
  have hg := below_grown hb (some w.heap.size)
  have hlt := lt_of h.ss.k8
  have hk1 : kb < w.heap.size := by
    obtain ⟨h1, _⟩ := h.ho 0 (by omega)
    obtain ⟨v, hv⟩ := Option.isSome_iff_exists.1 h1
    exact lt_of hv
  exact ⟨h.ds.below hb, h.ss.below hb, h.ky.grown hg (by simp; omega), h.ho.grown hg (by simp; omega), h.ol, h.od, h.om, h.oi, h.ok, h.o0⟩
end
end Go.Proofs.YbulkdznmFmt.A

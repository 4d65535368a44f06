/- 6304A: decodeKeyringBody's states. -/
import Derived.Test.YbulkdznmFmtK12c
namespace Go.Proofs.YbulkdznmFmt.A
open Go.RowKit

/-- A finished scope: its record's place, its block, its keys' block. -/
structure Scp (w : World) (B : Nat → UInt8) (e : Nat × Nat × Nat) : Prop where
  pr : By w e.2.1 0 8 (fr B (prim B e.1))
  k8 : w.cell? ⟨e.2.1, 8, none⟩ = some (.slice (some ⟨e.2.2, 0, none⟩) (nk B e.1) (nk B e.1))
  ky : By w e.2.2 0 (nk B e.1 * 40) (fr B (hdr B e.1))
  n0 : 0 < nk B e.1
def scs (B : Nat → UInt8) (es : List (Nat × Nat × Nat)) : List (Value × Value) := es.map fun e => (.string (nm B e.1), .pointer (some ⟨e.2.1, 0, none⟩))

section
variable {w w' : World} {B : Nat → UInt8} {e : Nat × Nat × Nat} {r : Nat}
theorem Scp.slt (h : Scp w B e) : e.2.1 < w.heap.size := lt_of h.k8
theorem Scp.klt (h : Scp w B e) : e.2.2 < w.heap.size := lt_of (h.ky 0 (by have := h.n0; omega))
theorem Scp.grown (h : Scp w B e) (hg : w.grownBy w' (some r)) (h1 : e.2.1 ≠ r) (h2 : e.2.2 ≠ r) : Scp w' B e :=
  ⟨h.pr.grown hg (by simpa using h1), hg.cell h.k8 (by simpa using h1), h.ky.grown hg (by simpa using h2), h.n0⟩
end

/-- The decoder's caller: its two maps, what they hold. -/
structure DS (w0 w : World) (B : Nat → UInt8) (g o N c T : Nat) (x : Value) (db sm im : Nat) (st : Option Nat) (es : List (Nat × Nat × Nat)) (seen : List (List UInt8)) : Prop where
  b : Below w0.heap.size w0 w
  D : Dec w db g o N c T x st
  m : MapL w im (ids seen)
  s8 : ∀ i ∈ seen, i.length = 8
  sc : MapL w sm (scs B es)
  ks : ∀ e ∈ es, Scp w B e
  db0 : w0.heap.size ≤ db
  sm0 : w0.heap.size ≤ sm
  im0 : w0.heap.size ≤ im
  ne : sm ≠ im
  dk : ∀ e ∈ es, e.2.1 ≠ db ∧ e.2.2 ≠ db

theorem Dec.some_ {w : World} {db g o N c T : Nat} {x : Value} {st : Option Nat} (h : Dec w db g o N c T x st) : ∃ v, w.cell? ⟨db, 1, none⟩ = some v := by
  cases st with
  | none => exact ⟨_, (h.bad rfl).2⟩
  | some p => exact ⟨_, (h.good p rfl).2.2⟩

section
variable {w0 w w' : World} {B : Nat → UInt8} {g o N c T : Nat} {x : Value} {db sm im : Nat} {st st' : Option Nat} {es : List (Nat × Nat × Nat)} {seen : List (List UInt8)} {r : Nat}
theorem DS.sz (h : DS w0 w B g o N c T x db sm im st es seen) : w0.heap.size ≤ w.heap.size := h.b.size
theorem DS.step (h : DS w0 w B g o N c T x db sm im st es seen) (hg : w.grownBy w' (some r)) (h0 : w0.heap.size ≤ r) (h1 : db ≠ r) (h2 : sm ≠ r) (h3 : im ≠ r) (h4 : ∀ e ∈ es, e.2.1 ≠ r ∧ e.2.2 ≠ r) : DS w0 w' B g o N c T x db sm im st es seen :=
  ⟨below_by h.b hg (fun k e => by cases e; exact h0) h.sz, h.D.grown hg (by simpa using h1), h.m.grown hg (by simpa using h3), h.s8, h.sc.grown hg (by simpa using h2), fun e he => (h.ks e he).grown hg (h4 e he).1 (h4 e he).2, h.db0, h.sm0, h.im0, h.ne, h.dk⟩
theorem DS.new (h : DS w0 w B g o N c T x db sm im st es seen) (hg : w.grownBy w' (some r)) (hr : w.heap.size ≤ r) : DS w0 w' B g o N c T x db sm im st es seen :=
  h.step hg (Nat.le_trans h.sz hr) (by have := h.D.lt; omega) (by have := h.sc.lt; omega) (by have := h.m.lt; omega) (fun e he => ⟨by have := (h.ks e he).slt; omega, by have := (h.ks e he).klt; omega⟩)
theorem DS.below (h : DS w0 w B g o N c T x db sm im st es seen) (hb : Below w.heap.size w w') : DS w0 w' B g o N c T x db sm im st es seen := h.new (below_grown hb (some w.heap.size)) (Nat.le_refl _)
theorem DS.dec (h : DS w0 w B g o N c T x db sm im st es seen) (hg : w.grownBy w' (some db)) (D : Dec w' db g o N c T x st') : DS w0 w' B g o N c T x db sm im st' es seen := by
  obtain ⟨v, hv⟩ := h.D.some_
  exact ⟨below_by h.b hg (fun k e => by cases e; exact h.db0) h.sz, D, h.m.grown hg (by have := h.m.ne hv; simpa using this.symm), h.s8, h.sc.grown hg (by have := h.sc.ne hv; simpa using this.symm), fun e he => (h.ks e he).grown hg (h.dk e he).1 (h.dk e he).2, h.db0, h.sm0, h.im0, h.ne, h.dk⟩
theorem DS.enter {f : Nat → UInt8} (h : DS w0 w B g o N c T x db sm im st es seen) (hg : w.grownBy w' (some im)) (hm : MapL w' im (ids (seen ++ [bl f]))) : DS w0 w' B g o N c T x db sm im st es (seen ++ [bl f]) := by
  obtain ⟨v, hv⟩ := h.D.some_
  refine ⟨below_by h.b hg (fun k e => by cases e; exact h.im0) h.sz, h.D.grown hg (by have := h.m.ne hv; simpa using this), hm, fun i hi => ?_, h.sc.grown hg (by simpa using h.ne), fun e he => (h.ks e he).grown hg (h.m.ne (h.ks e he).k8) (h.m.ne ((h.ks e he).ky 0 (by have := (h.ks e he).n0; omega))), h.db0, h.sm0, h.im0, h.ne, h.dk⟩
  rcases List.mem_append.1 hi with hi | hi
  · exact h.s8 i hi
  · obtain rfl : i = bl f := by simpa using hi
    rfl
/-- A scope goes into the map. -/
theorem DS.add {p sb kb : Nat} (h : DS w0 w B g o N c T x db sm im st es seen) (hs : Scp w B (p, sb, kb)) (hd : sb ≠ db ∧ kb ≠ db) (hg : w.grownBy w' (some sm)) (hm : MapL w' sm (scs B es ++ [(.string (nm B p), .pointer (some ⟨sb, 0, none⟩))])) : DS w0 w' B g o N c T x db sm im st (es ++ [(p, sb, kb)]) seen := by
  obtain ⟨v, hv⟩ := h.D.some_
  refine ⟨below_by h.b hg (fun k e => by cases e; exact h.sm0) h.sz, h.D.grown hg (by have := h.sc.ne hv; simpa using this), h.m.grown hg (by simpa using h.ne.symm), h.s8, ?_, fun e he => ?_, h.db0, h.sm0, h.im0, h.ne, fun e he => ?_⟩
  · unfold scs at hm ⊢
    rw [List.map_append]
    exact hm
  · have key : ∀ e, Scp w B e → Scp w' B e := fun e he => he.grown hg (h.sc.ne he.k8) (h.sc.ne (he.ky 0 (by have := he.n0; omega)))
    rcases List.mem_append.1 he with he | he
    · exact key e (h.ks e he)
    · obtain rfl : e = (p, sb, kb) := by simpa using he
      exact key _ hs
  · rcases List.mem_append.1 he with he | he
    · exact h.dk e he
    · obtain rfl : e = (p, sb, kb) := by simpa using he
      exact hd
end

/-- A scope that is being read: its primary, the cell of its keys. -/
structure SS (w : World) (sb : Nat) (f : Nat → UInt8) (v : Value) : Prop where
  pr : By w sb 0 8 f
  k8 : w.cell? ⟨sb, 8, none⟩ = some v
  fz : w.frozen? ⟨sb, 8, none⟩ = false
theorem SS.grown {w w' : World} {sb r : Nat} {f : Nat → UInt8} {v : Value} (h : SS w sb f v) (hg : w.grownBy w' (some r)) (h1 : sb ≠ r) : SS w' sb f v :=
  ⟨h.pr.grown hg (by simpa using h1), hg.cell h.k8 (by simpa using h1), (World.frozen?_of_block (hg.block sb (lt_of h.k8) (by simpa using h1))).trans h.fz⟩
theorem SS.below {w w' : World} {sb : Nat} {f : Nat → UInt8} {v : Value} (h : SS w sb f v) (hb : Below w.heap.size w w') : SS w' sb f v := h.grown (below_grown hb (some w.heap.size)) (by have := lt_of h.k8; omega)
theorem Hole.grown {w w' : World} {b o n : Nat} {row : Option Nat} (h : Hole w b o n) (hg : w.grownBy w' row) (hb : some b ≠ row) : Hole w' b o n := fun m hm => by
  obtain ⟨h1, h2⟩ := h m hm
  obtain ⟨v, hv⟩ := Option.isSome_iff_exists.1 h1
  have he := hg.block b (lt_of hv) hb
  rw [World.cell?_of_block (a := ⟨b, o + m, none⟩) he, World.frozen?_of_block (a := ⟨b, o + m, none⟩) he]
  exact ⟨h1, h2⟩
/-- A copy leaves a row writable. -/
theorem Hole.over {w w' : World} {b n o' n' : Nat} {f : Nat → UInt8} (h : Hole w b 0 n) (hc : Cpd w w' b o' n' f) : Hole w' b 0 n := fun m hm => by
  rw [hc.fr]
  refine ⟨?_, (h m hm).2⟩
  by_cases hin : o' ≤ m ∧ m < o' + n'
  · have := hc.in_ (m - o') (by omega)
    rw [show o' + (m - o') = 0 + m by omega] at this
    rw [this]
    rfl
  · rw [hc.out _ (fun _ _ => by simp; omega)]
    exact (h m hm).1
theorem By.over {w w' : World} {b n o' n' : Nat} {f f' : Nat → UInt8} (h : By w b 0 n f) (hc : Cpd w w' b o' n' f') (hd : n ≤ o') : By w' b 0 n f := fun m hm => by
  rw [hc.out _ (fun _ _ => Or.inl (by simp; omega))]
  exact h m hm

/-- The inner loop: j keys of the scope at p are read. -/
structure IDS (w0 w : World) (B : Nat → UInt8) (g o N c T : Nat) (x : Value) (db sm im : Nat) (es : List (Nat × Nat × Nat)) (seen : List (List UInt8)) (sb kb p j : Nat) : Prop where
  ds : DS w0 w B g o N c T x db sm im (some (hdr B p + j * 40)) es seen
  ss : SS w sb (fr B (prim B p)) (.slice (some ⟨kb, 0, none⟩) (nk B p) (nk B p))
  ky : By w kb 0 (j * 40) (fr B (hdr B p))
  ho : Hole w kb 0 (nk B p * 40)
  ol : ∀ e ∈ es, e.2.1 < sb ∧ e.2.2 < sb
  od : db < sb
  om : sm < sb
  oi : im < sb
  ok : sb < kb
  o0 : w0.heap.size ≤ sb
section
variable {w0 w w' w'' : World} {B : Nat → UInt8} {g o N c T : Nat} {x : Value} {db sm im : Nat} {es : List (Nat × Nat × Nat)} {seen : List (List UInt8)} {sb kb p j : Nat}
theorem IDS.enter {f : Nat → UInt8} (h : IDS w0 w B g o N c T x db sm im es seen sb kb p j) (hg : w.grownBy w' (some im)) (hm : MapL w' im (ids (seen ++ [bl f]))) : IDS w0 w' B g o N c T x db sm im es (seen ++ [bl f]) sb kb p j :=
  ⟨h.ds.enter hg hm, h.ss.grown hg (by have := h.oi; omega), h.ky.grown hg (by have := h.oi; have := h.ok; simp; omega), h.ho.grown hg (by have := h.oi; have := h.ok; simp; omega), h.ol, h.od, h.om, h.oi, h.ok, h.o0⟩
end
end Go.Proofs.YbulkdznmFmt.A

/- 6304A: the model's states; append of one struct. -/
import Derived.Test.YbulkdznmFmtK11
import Derived.Deep.MidRow
import Derived.Great.BuildSlice
import Derived.Maps.OwnOps
import Derived.Maps.Own
namespace Go.Proofs.YbulkdznmFmt.A
open Go.RowKit

theorem add0 (b o j : Nat) : (⟨b, o, none⟩ : Addr).add j = ⟨b, o + j, none⟩ := by unfold Addr.add; split <;> simp_all

/-- 'append(s, v)', v a struct read from memory: three operations. -/
theorem wpList_app {ops : Array Oper} {rest : List Oper} {o1 o2 o3 : Oper} {a : Act} {w : World} {Q : Exit → Act → World → Prop} (g1 : o1.guard = none) (g2 : o2.guard = none) (g3 : o3.guard = none)
    (T E : TypeId) (x t1 s t2 : Operand) (h1 : o1.op = .load E x) (h2 : o2.op = .buildSlice T 1 #[(0, t1)]) (h3 : o3.op = .call { callee := .builtin .append, args := #[s, t2], argTypes := #[T, T] })
    (i : TypeInfo) (z : Value) (size bytes : Nat) (d : TypeDesc) (hu : Ybaf.prog.underlying T = some (.slice E)) (hi : Ybaf.prog.info? E = some i) (hz : i.zero = some z) (hsz : i.size = size) (hby : i.bytes = bytes) (hzs : z.cells.size = size) (hpos : 0 < size) (hsm : size ≤ 1000)
    (hE : Ybaf.prog.underlying E = some d) (hd : d.isRow = true)
    (b o : Nat) (cs : List Value) (hx : a.eval x = .pointer (some ⟨b, o, none⟩)) (hc : ∀ j v, cs[j]? = some v → w.cell? ⟨b, o + j, none⟩ = some v) (hlen : cs.length = size) (hone : ∀ u ∈ cs, u.oneCell' = true)
    (e1 : ∀ v, (a.put o1.dst v).eval t1 = v) (sv : Value) (hs : ∀ v u, ((a.put o1.dst v).put o2.dst u).eval s = sv) (e2 : ∀ v u, ((a.put o1.dst v).put o2.dst u).eval t2 = u)
    (base n : Nat) (xs : List Value) (own : w.ownsRow base E size sv n xs) (hn : n + 1 ≤ maxLen) (hb : (n + 1) * bytes ≤ 140737488355328) (hbase : base ≤ w.heap.size)
    (h : ∀ v u v' w', Hid (w'.ownsRow base E size v' (n + 1) (xs ++ cs)) → Hid (w.grownBy w' sv.ownBlock) → wpList Ybaf.prog ops Q rest (((a.put o1.dst v).put o2.dst u).put o3.dst v') w') : wpList Ybaf.prog ops Q (o1 :: o2 :: o3 :: rest) a w := by
  refine wpList_load_mid g1 E x h1 b o hx cs d hc hE hd (by rw [hi, hlen]; simp [hsz]) ?_
  have hcells : (Value.agg cs.toArray).cells = cs.toArray := rfl
  refine wpList_buildSlice g2 T E 1 _ h2 cs.toArray i z hu hi hz (by rw [hsz]; omega) (by rw [hsz]; omega) ?_ ?_
  · have hf := Great.fill_whole (s := size) hpos [.agg cs.toArray] ((Array.range (1 * i.size)).map (z.cells[· % z.cells.size]!)) (by simp [hcells, hlen]) (by simp [hsz])
    rw [hsz] at hf ⊢
    simpa [hcells, e1] using hf
  · have hsb : ∀ k v, cs[k]? = some v → (w.alloc (.cells cs.toArray E)).cell? ((⟨w.heap.size, 0, none⟩ : Addr).add k) = some v := fun k v hv => by
      rw [add0, Nat.zero_add]
      exact (World.cell?_alloc_at (w := w) _ E _ k rfl).trans (by simpa using hv)
    refine wpList_append_own (w := w.alloc (.cells cs.toArray E)) g3 s t2 T h3 base E i z size bytes hu hi hz hsz hby hzs hpos sv n xs (hs _ _) (own.alloc _) ⟨w.heap.size, 0, none⟩ 1 1 cs (e2 _ _) (by rw [hlen, Nat.one_mul]) hsb hone hn hb (by simp; omega) ?_
    intro v' w' k1 k2 _
    exact h _ _ v' w' (hide k1) (hide (grown_trans (World.grownBy_alloc w _ _) k2))

/-- The cells of the entry at p, its keys in block kb. -/
def entc (B : Nat → UInt8) (p kb : Nat) : List Value := .string (nm B p) :: (cl (fr B (prim B p)) 8 ++ [.slice (some ⟨kb, 0, none⟩) (nk B p) (nk B p)])
theorem entc_len (B : Nat → UInt8) (p kb : Nat) : (entc B p kb).length = 10 := by simp [entc]
def flat (B : Nat → UInt8) (es : List (Nat × Nat)) : List Value := es.flatMap (fun e => entc B e.1 e.2)
theorem flat_add (B : Nat → UInt8) (es : List (Nat × Nat)) (p kb : Nat) : flat B (es ++ [(p, kb)]) = flat B es ++ entc B p kb := by simp [flat]
theorem flat_len (B : Nat → UInt8) (es : List (Nat × Nat)) : (flat B es).length = es.length * 10 := by
  induction es with
  | nil => rfl
  | cons e es ih =>
    have : flat B (e :: es) = entc B e.1 e.2 ++ flat B es := rfl
    rw [this, List.length_append, ih, entc_len, List.length_cons]
    omega
theorem flat_get (B : Nat → UInt8) : ∀ (es : List (Nat × Nat)) (i : Nat) (p kb k : Nat), es[i]? = some (p, kb) → k < 10 → (flat B es)[i * 10 + k]? = (entc B p kb)[k]?
  | [], i, p, kb, k, h, _ => by simp at h
  | e :: es, 0, p, kb, k, h, hk => by
    obtain rfl : e = (p, kb) := by simpa using h
    have : flat B ((p, kb) :: es) = entc B p kb ++ flat B es := rfl
    rw [this, Nat.zero_mul, Nat.zero_add, List.getElem?_append_left (by rw [entc_len]; exact hk)]
  | e :: es, i + 1, p, kb, k, h, hk => by
    have : flat B (e :: es) = entc B e.1 e.2 ++ flat B es := rfl
    rw [this, List.getElem?_append_right (by rw [entc_len]; omega), entc_len, show (i + 1) * 10 + k - 10 = i * 10 + k by omega]
    exact flat_get B es i p kb k (by simpa using h) hk

def ids (seen : List (List UInt8)) : List (Value × Value) := seen.map fun i => (arL i, .bool true)

/-- The model at its outer loop's head. -/
structure MS (w0 w : World) (B : Nat → UInt8) (mb : Nat) (ov : Value) (es : List (Nat × Nat)) (seen : List (List UInt8)) : Prop where
  b : Below w0.heap.size w0 w
  m : MapL w mb (ids seen)
  mb0 : w0.heap.size ≤ mb
  s8 : ∀ i ∈ seen, i.length = 8
  own : w.ownsRow w0.heap.size 43 10 ov es.length (flat B es)
  ks : ∀ e ∈ es, By w e.2 0 (nk B e.1 * 40) (fr B (hdr B e.1)) ∧ w0.heap.size ≤ e.2 ∧ 0 < nk B e.1

/-- .. and at its inner loop's head: the entry in block eb, its keys in block kb, j of them read. -/
structure IS (w0 w : World) (B : Nat → UInt8) (mb : Nat) (ov : Value) (es : List (Nat × Nat)) (seen : List (List UInt8)) (eb kb p j : Nat) : Prop where
  ms : MS w0 w B mb ov es seen
  e0 : w.cell? ⟨eb, 0, none⟩ = some (.string (nm B p))
  ep : By w eb 1 8 (fr B (prim B p))
  e9 : w.cell? ⟨eb, 9, none⟩ = some (.slice (some ⟨kb, 0, none⟩) j (nk B p))
  ef : w.frozen? ⟨eb, 9, none⟩ = false
  kr : w.ownsRow w0.heap.size 48 40 (.slice (some ⟨kb, 0, none⟩) j (nk B p)) j (cl (fr B (hdr B p)) (j * 40))
  eb0 : w0.heap.size ≤ eb
  d1 : ∀ e ∈ es, e.2 ≠ kb ∧ e.2 ≠ eb
  d2 : ov.ownBlock ≠ some eb ∧ ov.ownBlock ≠ some kb
  d3 : eb ≠ kb

theorem below_by {B : Nat} {w0 w w' : World} {row : Option Nat} (h : Below B w0 w) (hg : w.grownBy w' row) (hr : ∀ k, row = some k → B ≤ k) (hs : B ≤ w.heap.size) : Below B w0 w' :=
  h.trans ⟨hg.os, hg.tape, hg.output, hg.size, fun k hk => hg.block k (by omega) (fun e => by have := hr k e.symm; omega)⟩
theorem MapL.ne {w : World} {mb b o : Nat} {l} {v : Value} (h : MapL w mb l) (hc : w.cell? ⟨b, o, none⟩ = some v) : b ≠ mb := by
  rintro rfl
  obtain ⟨es, ck, h, _⟩ := h
  simp [World.cell?, h] at hc

section
variable {w0 w w' : World} {B : Nat → UInt8} {mb : Nat} {ov : Value} {es : List (Nat × Nat)} {seen : List (List UInt8)} {eb kb p j r : Nat}
theorem MS.sz (h : MS w0 w B mb ov es seen) : w0.heap.size ≤ w.heap.size := h.b.size
theorem MS.klt (h : MS w0 w B mb ov es seen) {e : Nat × Nat} (he : e ∈ es) : e.2 < w.heap.size := lt_of ((h.ks e he).1 0 (by have := (h.ks e he).2.2; omega))
theorem MS.step (h : MS w0 w B mb ov es seen) (hg : w.grownBy w' (some r)) (h0 : w0.heap.size ≤ r) (h1 : mb ≠ r) (h2 : ∀ e ∈ es, e.2 ≠ r) (h3 : ov.ownBlock ≠ some r) : MS w0 w' B mb ov es seen :=
  ⟨below_by h.b hg (fun k e => by cases e; exact h0) h.sz, h.m.grown hg (by simpa using h1), h.mb0, h.s8, h.own.kept hg (Or.inr h3), fun e he => ⟨(h.ks e he).1.grown hg (by simpa using h2 e he), (h.ks e he).2⟩⟩
theorem MS.new (h : MS w0 w B mb ov es seen) (hg : w.grownBy w' (some r)) (hr : w.heap.size ≤ r) : MS w0 w' B mb ov es seen :=
  h.step hg (Nat.le_trans h.sz hr) (by have := h.m.lt; omega) (fun e he => by have := h.klt he; omega) (fun e => by have := (h.own.lt r e).2; omega)
theorem IS.elt (h : IS w0 w B mb ov es seen eb kb p j) : eb < w.heap.size := lt_of h.e0
theorem IS.klt (h : IS w0 w B mb ov es seen eb kb p j) : kb < w.heap.size := (h.kr.lt kb rfl).2
theorem IS.step (h : IS w0 w B mb ov es seen eb kb p j) (hms : MS w0 w' B mb ov es seen) (hg : w.grownBy w' (some r)) (h1 : eb ≠ r) (h2 : kb ≠ r) : IS w0 w' B mb ov es seen eb kb p j := by
  have he := hg.block eb h.elt (by simpa using h1)
  exact ⟨hms, (World.cell?_of_block he).trans h.e0, h.ep.grown hg (by simpa using h1), (World.cell?_of_block he).trans h.e9, (World.frozen?_of_block he).trans h.ef, h.kr.kept hg (Or.inr (by simpa [Value.ownBlock] using h2)), h.eb0, h.d1, h.d2, h.d3⟩
theorem IS.new (h : IS w0 w B mb ov es seen eb kb p j) (hg : w.grownBy w' (some r)) (hr : w.heap.size ≤ r) : IS w0 w' B mb ov es seen eb kb p j :=
  h.step (h.ms.new hg hr) hg (by have := h.elt; omega) (by have := h.klt; omega)
theorem MS.enter {f : Nat → UInt8} (h : MS w0 w B mb ov es seen) (hg : w.grownBy w' (some mb)) (hm : MapL w' mb (ids (seen ++ [bl f]))) : MS w0 w' B mb ov es (seen ++ [bl f]) := by
  refine ⟨below_by h.b hg (fun k e => by cases e; exact h.mb0) h.sz, hm, h.mb0, fun i hi => ?_, h.own.kept hg ?_, fun e he => ⟨(h.ks e he).1.grown hg ?_, (h.ks e he).2⟩⟩
  · rcases List.mem_append.1 hi with hi | hi
    · exact h.s8 i hi
    · obtain rfl : i = bl f := by simpa using hi
      rfl
  · refine Or.inr (fun e => ?_)
    rcases h.own.2 with ⟨rfl, _⟩ | ⟨g, cap, cur, rfl, _, hh, _⟩
    · simp [Value.ownBlock] at e
    · obtain rfl : g = mb := by simpa [Value.ownBlock] using e
      obtain ⟨es', ck, hh', _⟩ := h.m
      rw [hh] at hh'
      cases hh'
  · have := h.m.ne ((h.ks e he).1 0 (by have := (h.ks e he).2.2; omega))
    simpa using this
theorem IS.enter {f : Nat → UInt8} (h : IS w0 w B mb ov es seen eb kb p j) (hg : w.grownBy w' (some mb)) (hm : MapL w' mb (ids (seen ++ [bl f]))) : IS w0 w' B mb ov es (seen ++ [bl f]) eb kb p j := by
  have h1 : eb ≠ mb := h.ms.m.ne h.e0
  have h2 : kb ≠ mb := by
    rintro rfl
    rcases h.kr.2 with ⟨e, _⟩ | ⟨g, cap, cur, e, _, hh, _⟩
    · cases e
    · cases e
      obtain ⟨es', ck, hh', _⟩ := h.ms.m
      rw [hh] at hh'
      cases hh'
  have he := hg.block eb h.elt (by simpa using h1)
  exact ⟨h.ms.enter hg hm, (World.cell?_of_block he).trans h.e0, h.ep.grown hg (by simpa using h1), (World.cell?_of_block he).trans h.e9, (World.frozen?_of_block he).trans h.ef, h.kr.kept hg (Or.inr (by simpa [Value.ownBlock] using h2)), h.eb0, h.d1, h.d2, h.d3⟩
theorem cl_add (f : Nat → UInt8) (a b : Nat) : cl f a ++ cl (fun m => f (a + m)) b = cl f (a + b) := by
  unfold cl
  rw [List.range_add, List.map_append, List.map_map]
  rfl
theorem IS.app (h : IS w0 w B mb ov es seen eb kb p j) (hg : w.grownBy w' (some kb)) (ho : w'.ownsRow w0.heap.size 48 40 (.slice (some ⟨kb, 0, none⟩) (j + 1) (nk B p)) (j + 1) (cl (fr B (hdr B p)) (j * 40) ++ cl (fr B (hdr B p + j * 40)) 40)) :
    IS w0 (w'.setCell ⟨eb, 9, none⟩ (.slice (some ⟨kb, 0, none⟩) (j + 1) (nk B p))) B mb ov es seen eb kb p (j + 1) := by
  have hk0 : w0.heap.size ≤ kb := (h.kr.lt kb rfl).1
  have hms := h.ms.step hg hk0 (fun e => by
    subst e
    rcases h.kr.2 with ⟨e, _⟩ | ⟨g, cap, cur, e, _, hh, _⟩
    · cases e
    · cases e
      obtain ⟨es', ck, hh', _⟩ := h.ms.m
      rw [hh] at hh'
      cases hh') (fun e he => (h.d1 e he).1) h.d2.2
  have he := hg.block eb h.elt (by simpa using h.d3)
  have hg2 := grown_setCell w' eb 9 (.slice (some ⟨kb, 0, none⟩) (j + 1) (nk B p))
  have c0 := (World.cell?_of_block (a := ⟨eb, 0, none⟩) he).trans h.e0
  have c9 := (World.cell?_of_block (a := ⟨eb, 9, none⟩) he).trans h.e9
  refine ⟨hms.step hg2 h.eb0 (hms.m.ne c0).symm (fun e he => (h.d1 e he).2) h.d2.1, ?_, fun m hm => ?_, ?_, ?_, ?_, h.eb0, h.d1, h.d2, h.d3⟩
  · rw [World.cell?_setCell_other _ _ _ _ (by simp)]; exact c0
  · rw [World.cell?_setCell_other _ _ _ _ (by intro e2; injection e2 with _ e3; omega)]; exact (World.cell?_of_block (a := ⟨eb, 1 + m, none⟩) he).trans (h.ep m hm)
  · exact World.cell?_setCell_same w' _ _ c9
  · rw [frozen_set]; exact (World.frozen?_of_block (a := ⟨eb, 9, none⟩) he).trans h.ef
  · have e : cl (fr B (hdr B p)) (j * 40) ++ cl (fr B (hdr B p + j * 40)) 40 = cl (fr B (hdr B p)) ((j + 1) * 40) := by
      have := cl_add (fr B (hdr B p)) (j * 40) 40
      rw [show (j + 1) * 40 = j * 40 + 40 by omega, ← this]
      congr 2
      funext m
      simp [fr, Nat.add_assoc]
    rw [e] at ho
    exact ho.kept hg2 (Or.inr (by simpa [Value.ownBlock] using h.d3.symm))
end
end Go.Proofs.YbulkdznmFmt.A

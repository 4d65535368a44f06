/- 6304A: append in place; a key on its way; look-up with a name for its answer. -/
import Derived.Test.YbulkdznmFmtK12b
namespace Go.Proofs.YbulkdznmFmt.A
open Go.RowKit

/-- 'append(s, v)' where there is room, v a struct read from memory: three operations. -/
theorem wpList_appfit {ops : Array Oper} {rest : List Oper} {o1 o2 o3 : Oper} {a : Act} {w : World} {Q : Exit → Act → World → Prop} (g1 : o1.guard = none) (g2 : o2.guard = none) (g3 : o3.guard = none)
    (T E : TypeId) (x t1 s t2 : Operand) (h1 : o1.op = .load E x) (h2 : o2.op = .buildSlice T 1 #[(0, t1)]) (h3 : o3.op = .call { callee := .builtin .append, args := #[s, t2], argTypes := #[T, T] })
    (i : TypeInfo) (z : Value) (size : Nat) (d : TypeDesc) (hu : Ybaf.prog.underlying T = some (.slice E)) (hi : Ybaf.prog.info? E = some i) (hz : i.zero = some z) (hsz : i.size = size) (hpos : 0 < size) (hsm : size ≤ 1000)
    (hE : Ybaf.prog.underlying E = some d) (hd : d.isRow = true)
    (b o : Nat) (cs : List Value) (hx : a.eval x = .pointer (some ⟨b, o, none⟩)) (hc : ∀ j v, cs[j]? = some v → w.cell? ⟨b, o + j, none⟩ = some v) (hlen : cs.length = size) (hone : ∀ u ∈ cs, u.oneCell' = true)
    (e1 : ∀ v, (a.put o1.dst v).eval t1 = v) (kb n cap : Nat) (hs : ∀ v u, ((a.put o1.dst v).put o2.dst u).eval s = .slice (some ⟨kb, 0, none⟩) n cap) (e2 : ∀ v u, ((a.put o1.dst v).put o2.dst u).eval t2 = u)
    (base : Nat) (xs : List Value) (own : w.ownsRow base E size (.slice (some ⟨kb, 0, none⟩) n cap) n xs) (hn : n + 1 ≤ cap)
    (h : ∀ v u w', Hid (w'.ownsRow base E size (.slice (some ⟨kb, 0, none⟩) (n + 1) cap) (n + 1) (xs ++ cs)) → Hid (w.grownBy w' (some kb)) → wpList Ybaf.prog ops Q rest (((a.put o1.dst v).put o2.dst u).put o3.dst (.slice (some ⟨kb, 0, none⟩) (n + 1) cap)) w') : wpList Ybaf.prog ops Q (o1 :: o2 :: o3 :: rest) a w := by
  refine wpList_load_mid g1 E x h1 b o hx cs d hc hE hd (by rw [hi, hlen]; simp [hsz]) ?_
  have hcells : (Value.agg cs.toArray).cells = cs.toArray := rfl
  refine wpList_buildSlice g2 T E 1 _ h2 cs.toArray i z hu hi hz (by rw [hsz]; omega) (by rw [hsz]; omega) ?_ ?_
  · have hf := Great.fill_whole (s := size) hpos [.agg cs.toArray] ((Array.range (1 * i.size)).map (z.cells[· % z.cells.size]!)) (by simp [hcells, hlen]) (by simp [hsz])
    rw [hsz] at hf ⊢
    simpa [hcells, e1] using hf
  · have hsb : ∀ k v, cs[k]? = some v → (w.alloc (.cells cs.toArray E)).cell? ((⟨w.heap.size, 0, none⟩ : Addr).add k) = some v := fun k v hv => by
      rw [add0, Nat.zero_add]
      exact (World.cell?_alloc_at (w := w) _ E _ k rfl).trans (by simpa using hv)
    refine wpList_append_fits (w := w.alloc (.cells cs.toArray E)) g3 s t2 T h3 base E i size hu hi hsz kb n cap xs (hs _ _) (own.alloc _) ⟨w.heap.size, 0, none⟩ 1 1 cs (e2 _ _) (by rw [hlen, Nat.one_mul]) hsb hone hn ?_
    intro w' k1 k2
    exact h _ _ w' (hide k1) (hide (grown_trans (World.grownBy_alloc w _ _) k2))

def kz : Array Value := #[.int .u8 0, .int .u8 0, .int .u8 0, .int .u8 0, .int .u8 0, .int .u8 0, .int .u8 0, .int .u8 0, .int .u8 0, .int .u8 0, .int .u8 0, .int .u8 0, .int .u8 0, .int .u8 0, .int .u8 0, .int .u8 0, .int .u8 0, .int .u8 0, .int .u8 0, .int .u8 0, .int .u8 0, .int .u8 0, .int .u8 0, .int .u8 0, .int .u8 0, .int .u8 0, .int .u8 0, .int .u8 0, .int .u8 0, .int .u8 0, .int .u8 0, .int .u8 0, .int .u8 0, .int .u8 0, .int .u8 0, .int .u8 0, .int .u8 0, .int .u8 0, .int .u8 0, .int .u8 0]
theorem kz_rep : kz = Array.replicate 40 (.int .u8 0) := rfl
/-- Cells are there from o on, and may be written. -/
def Hole (w : World) (b o n : Nat) : Prop := ∀ m, m < n → (w.cell? ⟨b, o + m, none⟩).isSome = true ∧ w.frozen? ⟨b, o + m, none⟩ = false
theorem kz_hole (w : World) : Hole (w.alloc (.cells kz 48)) w.heap.size 0 40 := fun m hm => by
  refine ⟨?_, World.frozen?_alloc_at (w := w) _ 48 _ (0 + m) rfl⟩
  rw [World.cell?_alloc_at (w := w) _ 48 _ (0 + m) rfl, kz_rep, Nat.zero_add]
  simp [hm]
theorem Hole.sub {w : World} {b n : Nat} (h : Hole w b 0 n) (o k : Nat) (hk : o + k ≤ n) : Hole w b o k := fun m hm => by have := h (o + m) (by omega); rwa [Nat.zero_add] at this
theorem Hole.copied {w w' : World} {b o n o' n' : Nat} {f : Nat → UInt8} (h : Hole w b o n) (hc : Cpd w w' b o' n' f) (hd : o' + n' ≤ o) : Hole w' b o n := fun m hm => by
  rw [hc.out _ (fun _ _ => Or.inr (by simp; omega)), hc.fr]
  exact h m hm
theorem by40 {w w' : World} {b q : Nat} {B : Nat → UInt8} (h : By w b 0 8 (fr B q)) (hc : Cpd w w' b 8 32 (fr B (q + 8))) : By w' b 0 40 (fr B q) := fun m hm => by
  rw [Nat.zero_add]
  rcases Nat.lt_or_ge m 8 with hm8 | hm8
  · rw [hc.out _ (fun _ _ => Or.inl (by simpa using hm8))]
    have := h m hm8
    rwa [Nat.zero_add] at this
  · have := hc.in_ (m - 8) (by omega)
    rw [show 8 + (m - 8) = m by omega] at this
    rw [this]
    unfold fr
    rw [show q + 8 + (m - 8) = q + m by omega]
theorem by_cells {w : World} {b o n : Nat} {f : Nat → UInt8} (h : By w b o n f) : ∀ j v, (cl f n)[j]? = some v → w.cell? ⟨b, o + j, none⟩ = some v := fun j v hj => by
  have hlt : j < n := by have := (List.getElem?_eq_some_iff.1 hj).1; simpa using this
  rw [cl_get f n j hlt] at hj
  cases hj
  exact h j hlt
theorem cl_one (f : Nat → UInt8) (n : Nat) : ∀ u ∈ cl f n, u.oneCell' = true := fun v hv => by
  obtain ⟨i, _, rfl⟩ := List.mem_map.1 hv
  rfl
theorem entc_one (B : Nat → UInt8) (p kb : Nat) : ∀ u ∈ entc B p kb, u.oneCell' = true := fun v hv => by
  rcases List.mem_cons.1 hv with rfl | hv
  · rfl
  · rcases List.mem_append.1 hv with hv | hv
    · exact cl_one _ _ v hv
    · obtain rfl : v = _ := by simpa using hv
      rfl
theorem wpList_lookr {ops : Array Oper} {rest : List Oper} {o : Oper} {a : Act} {w : World} {Q : Exit → Act → World → Prop} (hg : o.guard = none) (m x : Operand) (hop : o.op = Op.lookup 56 m x false)
    (b : Nat) (f : Nat → UInt8) (L : List (List UInt8)) (hm : a.eval m = .map (some b)) (hx : a.eval x = ar f) (hL : MapL w b (ids L)) (h8 : ∀ i ∈ L, i.length = 8) (r : Bool) (hr : Hid (decide (bl f ∈ L) = r))
    (h : wpList Ybaf.prog ops Q rest (a.put o.dst (.bool r)) w) : wpList Ybaf.prog ops Q (o :: rest) a w :=
  wpList_look hg m x hop b f L hm hx (hide hL) (hide h8) (by rw [hr.out]; exact h)
theorem wpList_enterr {ops : Array Oper} {rest : List Oper} {o : Oper} {a : Act} {w : World} {Q : Exit → Act → World → Prop} (hg : o.guard = none) (m x : Operand) (hop : o.op = Op.mapUpdate 56 m x (.const (.bool true)))
    (b : Nat) (f : Nat → UInt8) (L : List (List UInt8)) (hm : a.eval m = .map (some b)) (hx : a.eval x = ar f) (hL : MapL w b (ids L)) (h8 : ∀ i ∈ L, i.length = 8) (hr : Hid (decide (bl f ∈ L) = false))
    (h : ∀ w', Hid (MapL w' b (ids (L ++ [bl f]))) → Hid (w.grownBy w' (some b)) → wpList Ybaf.prog ops Q rest (a.put o.dst undef) w') : wpList Ybaf.prog ops Q (o :: rest) a w :=
  wpList_enter hg m x hop b f L hm hx (hide hL) (hide h8) (hide (of_decide_eq_false hr.out)) h
theorem wp_lookr {o : Oper} {a : Act} {w : World} {K : Act → World → Prop} {Q : Exit → Act → World → Prop} (m x : Operand) (hop : o.op = Op.lookup 56 m x false)
    (b : Nat) (f : Nat → UInt8) (L : List (List UInt8)) (hm : a.eval m = .map (some b)) (hx : a.eval x = ar f) (hL : MapL w b (ids L)) (h8 : ∀ i ∈ L, i.length = 8) (r : Bool) (hr : Hid (decide (bl f ∈ L) = r))
    (h : K (a.put o.dst (.bool r)) w) : Oper.wp Ybaf.prog o a w K Q := by
  have hrun : (Instr.lookup 56 (.map (some b)) (ar f) false).run Ybaf.prog w = .ok (.bool r) w := by
    obtain ⟨kl, hkl⟩ := key40 f
    rw [← hr.out]
    rcases run_lookupL law40 Ybaf.underlying56 w (z := .bool false) (by kernel_rfl) hL hkl (keysL h8) with ⟨h1, h2⟩ | ⟨v, h1, h2⟩
    · rw [h1]
      have : decide (bl f ∈ L) = false := by
        rw [decide_eq_false_iff_not]
        intro hc
        exact h2 (arL (bl f), .bool true) (List.mem_map.2 ⟨bl f, hc, rfl⟩) (arL_bl f)
      rw [this]
    · rw [h1]
      obtain ⟨i, hi, e⟩ := List.mem_map.1 h2
      injection e with e1 e2
      rw [← e2]
      have : decide (bl f ∈ L) = true := by
        rw [arL_inj (h8 i hi) (bl_len f) (e1.trans (arL_bl f).symm)] at hi
        simpa using hi
      rw [this]
  unfold Oper.wp
  simp [execOp, hop, hm, hx, hrun, Result.andThen]
  exact h
theorem wp_enterr {o : Oper} {a : Act} {w : World} {K : Act → World → Prop} {Q : Exit → Act → World → Prop} (m x : Operand) (hop : o.op = Op.mapUpdate 56 m x (.const (.bool true)))
    (b : Nat) (f : Nat → UInt8) (L : List (List UInt8)) (hm : a.eval m = .map (some b)) (hx : a.eval x = ar f) (hL : MapL w b (ids L)) (h8 : ∀ i ∈ L, i.length = 8) (hr : Hid (decide (bl f ∈ L) = false))
    (h : ∀ w', Hid (MapL w' b (ids (L ++ [bl f]))) → Hid (w.grownBy w' (some b)) → K (a.put o.dst undef) w') : Oper.wp Ybaf.prog o a w K Q := by
  obtain ⟨w', h1, h2, h3⟩ := run_enter40 w b f L hL h8 (of_decide_eq_false hr.out)
  unfold Oper.wp
  have hv : a.eval (.const (.bool true)) = .bool true := rfl
  simp [execOp, hop, hm, hx, hv, h1, Result.andThen]
  exact h w' (hide h2) (hide h3)
theorem info_z {e : TypeId} {cs sz by_ : Nat} (h : (Ybaf.prog.info? e).map (fun i => (i.zero.map (fun z => z.cells.size), i.size, i.bytes)) = some (some cs, sz, by_)) :
    ∃ i z, Ybaf.prog.info? e = some i ∧ i.zero = some z ∧ z.cells.size = cs ∧ i.size = sz ∧ i.bytes = by_ := by
  obtain ⟨i, hi, hz⟩ := Option.map_eq_some_iff.1 h
  simp only [Prod.mk.injEq] at hz
  obtain ⟨z, hz1, hz2⟩ := Option.map_eq_some_iff.1 hz.1
  exact ⟨i, z, hi, hz1, hz2, hz.2.1, hz.2.2⟩
end Go.Proofs.YbulkdznmFmt.A

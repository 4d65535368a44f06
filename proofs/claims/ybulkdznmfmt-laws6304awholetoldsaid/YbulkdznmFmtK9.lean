/- 6304A: steps of the walk: copy of bytes, calls inside a region that draws, look-up and entry in a map. -/
import Derived.Test.YbulkdznmFmtK8
import Derived.Deep.RegionLaw
import Derived.Laws.IdiomCopy
import Derived.Laws.BytesString
namespace Go.Proofs.YbulkdznmFmt.A
open Go.RowKit

/-- What a copy of n bytes to place o of block b leaves. -/
structure Cpd (w w' : World) (b o n : Nat) (f : Nat → UInt8) : Prop where
  in_ : By w' b o n f
  out : ∀ x : Addr, (x.block = b → x.spot = none → x.off < o ∨ o + n ≤ x.off) → w'.cell? x = w.cell? x
  fr : ∀ x, w'.frozen? x = w.frozen? x
  gr : w.grownBy w' (some b)

/-- The cells of n bytes. -/
def cl (f : Nat → UInt8) (n : Nat) : List Value := (List.range n).map (fun i => .int .u8 (f i).toNat)
@[simp] theorem cl_len (f : Nat → UInt8) (n : Nat) : (cl f n).length = n := by simp [cl]
theorem cl_get (f : Nat → UInt8) (n j : Nat) (h : j < n) : (cl f n)[j]? = some (.int .u8 (f j).toNat) := by simp [cl, h]
theorem grown_setCells (b : Nat) : ∀ (vs : List Value) (o : Nat) (w : World), w.grownBy (w.setCells b o vs) (some b)
  | [], _, w => grown_refl w _
  | v :: r, o, w => grown_trans (grown_setCell w b o v) (grown_setCells b r (o + 1) _)

theorem info24 : (Ybaf.prog.info? 5).map (·.size) = some 1 := by kernel_rfl
theorem run_copy_by (w : World) (ty : TypeId) (b o g s n dc sc : Nat) (f : Nat → UInt8) (hs : By w g s n f) (hd : ∀ m, m < n → (w.cell? ⟨b, o + m, none⟩).isSome = true ∧ w.frozen? ⟨b, o + m, none⟩ = false) :
    ∃ w', (Builtin.copy_ #[24, 24] ty #[.slice (some ⟨b, o, none⟩) n dc, .slice (some ⟨g, s, none⟩) n sc]).run Ybaf.prog w = .ok (goInt n) w' ∧ Cpd w w' b o n f := by
  have h := run_copy_cells (P := Ybaf.prog) w 24 24 ty 5 b o n dc ⟨g, s, none⟩ n sc (cl f n) Ybaf.underlying24 info24 (by simp) (fun j v hj => by
      have hlt : j < n := by have := (List.getElem?_eq_some_iff.1 hj).1; simpa using this
      rw [cl_get f n j hlt] at hj
      cases hj
      have hadd : (⟨g, s, none⟩ : Addr).add j = ⟨g, s + j, none⟩ := by unfold Addr.add; split <;> simp_all
      rw [hadd]
      exact hs j hlt) (fun j hj => (hd j (by simpa using hj)).1) (fun j hj => (hd j (by simpa using hj)).2) (fun v hv => by
      obtain ⟨i, _, rfl⟩ := List.mem_map.1 hv
      rfl)
  rw [cl_len] at h
  refine ⟨_, h, ⟨fun m hm => ?_, fun x hx => World.cell?_setCells_out b _ o w x (by simpa using hx), fun x => World.frozen?_setCells b _ o w x, grown_setCells b _ o w⟩⟩
  have := World.cell?_setCells_in b (cl f n) o w (fun j hj => (hd j (by simpa using hj)).1) m (by simpa using hm)
  rw [this]
  simp [cl]

/-- Eight bytes, listed, as a value. -/
def arL (l : List UInt8) : Value := .agg (l.map (fun b => Value.int .u8 b.toNat)).toArray
theorem arL_bl (f : Nat → UInt8) : arL (bl f) = ar f := rfl
theorem bl_len (f : Nat → UInt8) : (bl f).length = 8 := rfl
theorem arL_inj {l k : List UInt8} (_hl : l.length = 8) (_hk : k.length = 8) (h : arL l = arL k) : l = k := by
  unfold arL at h
  injection h with h
  have h := congrArg Array.toList h
  simp only at h
  refine (List.map_inj_right (f := fun b : UInt8 => Value.int .u8 b.toNat) ?_).1 h
  intro x y e
  injection e with _ e
  exact UInt8.toNat_inj.1 (Int.ofNat.inj e)
theorem eight (l : List UInt8) (h : l.length = 8) : ∃ f, l = bl f := by
  refine ⟨fun i => l.getD i 0, ?_⟩
  match l, h with
  | [a, b, c, d, e, f, g, i], _ => rfl
theorem keysL {L : List (List UInt8)} (h8 : ∀ i ∈ L, i.length = 8) : ∀ p ∈ L.map (fun i => (arL i, Value.bool true)), ∃ q, keyOf Ybaf.prog 40 p.1 = some q := by
  intro p hp
  obtain ⟨i, hi, rfl⟩ := List.mem_map.1 hp
  obtain ⟨f, rfl⟩ := eight i (h8 i hi)
  exact key40 f

/-- copy as a step of a region that draws its order. -/
theorem step_copy_by {ops : Array Oper} {op : Oper} {a : Act} {w : World} {K : Act → World → Prop} {Q : Exit → Act → World → Prop} {E : Prop} (hgd : op.guard = none) (d s : Operand)
    (ho : op.op = .call { callee := .builtin .copy, args := #[d, s], argTypes := #[24, 24] }) (b o g sp n dc sc : Nat) (f : Nat → UInt8)
    (hd : a.eval d = .slice (some ⟨b, o, none⟩) n dc) (hs : a.eval s = .slice (some ⟨g, sp, none⟩) n sc) (hb : By w g sp n f) (hf : ∀ m, m < n → (w.cell? ⟨b, o + m, none⟩).isSome = true ∧ w.frozen? ⟨b, o + m, none⟩ = false)
    (h : ∀ w', Hid (Cpd w w' b o n f) → K (a.put op.dst (goInt n)) w') :
    if Region.wanted op (yielded ops a.tmps) = true then Oper.wp Ybaf.prog op a w K Q else E := by
  have hw : Region.wanted op (yielded ops a.tmps) = true := by simp [Region.wanted, hgd]
  rw [if_pos hw]
  obtain ⟨w', hrun, hc⟩ := run_copy_by w op.type b o g sp n dc sc f hb hf
  unfold Oper.wp
  simp [execOp, ho, resolve, invoke, builtin, hd, hs, hrun, Result.andThen]
  exact h _ hc

/-- A call of decoder.bytes as a step of a region that draws its order. -/
theorem step_call14 {ops : Array Oper} {op : Oper} {a : Act} {w : World} {K : Act → World → Prop} {Q : Exit → Act → World → Prop} {E : Prop} (hgd : op.guard = none) (x y : Operand)
    (ho : op.op = .call { callee := .value (.func 14), args := #[x, y], argTypes := #[60, 3] }) (vx vy : Value)
    (hx : a.eval x = vx) (hy : a.eval y = vy) {R : Value → World → Prop} (hc : Calls Ybaf.prog 14 #[vx, vy] w fun e w' => ∃ v, e = .returned v ∧ R v w')
    (h : ∀ v w', R v w' → K (a.put op.dst v) w') :
    if Region.wanted op (yielded ops a.tmps) = true then Oper.wp Ybaf.prog op a w K Q else E := by
  have hw : Region.wanted op (yielded ops a.tmps) = true := by simp [Region.wanted, hgd]
  rw [if_pos hw]
  have HC := hide hc
  clear hc
  unfold Act.eval at hx hy
  simp only [Array.getD_eq_getD_getElem?] at hx hy
  have HX := hide hx
  have HY := hide hy
  clear hx hy
  unfold Oper.wp
  simp only [execOp, ho]
  go_simp
  rw [HX.out, HY.out]
  refine HC.out.mono ?_
  rintro e w' ⟨v, rfl, hr⟩
  exact h v w' hr

/-- A look-up in the set of ids. -/
theorem wpList_look {ops : Array Oper} {rest : List Oper} {o : Oper} {a : Act} {w : World} {Q : Exit → Act → World → Prop} (hg : o.guard = none) (m x : Operand) (hop : o.op = Op.lookup 56 m x false)
    (b : Nat) (f : Nat → UInt8) (L : List (List UInt8)) (hm : a.eval m = .map (some b)) (hx : a.eval x = ar f) (hL : Hid (MapL w b (L.map (fun i => (arL i, .bool true))))) (h8 : Hid (∀ i ∈ L, i.length = 8))
    (h : wpList Ybaf.prog ops Q rest (a.put o.dst (.bool (decide (bl f ∈ L)))) w) : wpList Ybaf.prog ops Q (o :: rest) a w := by
  refine wpList_plain hg fun K hK => ?_
  have hrun : (Instr.lookup 56 (.map (some b)) (ar f) false).run Ybaf.prog w = .ok (.bool (decide (bl f ∈ L))) w := by
    obtain ⟨kl, hkl⟩ := key40 f
    rcases run_lookupL law40 Ybaf.underlying56 w (z := .bool false) (by kernel_rfl) hL.out hkl (keysL h8.out) with ⟨h1, h2⟩ | ⟨v, h1, h2⟩
    · rw [h1]
      have : decide (bl f ∈ L) = false := by
        rw [decide_eq_false_iff_not]
        intro hc
        exact h2 (arL (bl f), .bool true) (List.mem_map.2 ⟨bl f, hc, rfl⟩) (arL_bl f)
      rw [this]
    · rw [h1]
      obtain ⟨i, hi, e⟩ := List.mem_map.1 h2
      injection e with e1 e2
      rw [← e2]
      have : decide (bl f ∈ L) = true := by
        rw [arL_inj (h8.out i hi) (bl_len f) (e1.trans (arL_bl f).symm)] at hi
        simpa using hi
      rw [this]
  unfold Oper.wp
  simp [execOp, hop, hm, hx, hrun, Result.andThen]
  exact hK _ _ h

theorem run_enter40 (w : World) (b : Nat) (f : Nat → UInt8) (L : List (List UInt8)) (hL : MapL w b (L.map (fun i => (arL i, .bool true)))) (h8 : ∀ i ∈ L, i.length = 8) (hn : bl f ∉ L) :
    ∃ w', (Instr.mapUpdate 56 (.map (some b)) (ar f) (.bool true)).run Ybaf.prog w = .ok () w' ∧ MapL w' b ((L ++ [bl f]).map (fun i => (arL i, .bool true))) ∧ w.grownBy w' (some b) := by
  obtain ⟨kl, hkl⟩ := key40 f
  obtain ⟨w', h1, h2, h3⟩ := run_enterL law40 Ybaf.underlying56 w hL hkl (keysL h8) (fun p hp e => by
    obtain ⟨i, hi, rfl⟩ := List.mem_map.1 hp
    have := arL_inj (h8 i hi) (bl_len f) ((show arL i = ar f from e).trans (arL_bl f).symm)
    rw [this] at hi
    exact hn hi) (.bool true)
  refine ⟨w', h1, ?_, h3⟩
  rw [List.map_append, List.map_singleton, arL_bl]
  exact h2

/-- A new id goes in. -/
theorem wpList_enter {ops : Array Oper} {rest : List Oper} {o : Oper} {a : Act} {w : World} {Q : Exit → Act → World → Prop} (hg : o.guard = none) (m x : Operand) (hop : o.op = Op.mapUpdate 56 m x (.const (.bool true)))
    (b : Nat) (f : Nat → UInt8) (L : List (List UInt8)) (hm : a.eval m = .map (some b)) (hx : a.eval x = ar f) (hL : Hid (MapL w b (L.map (fun i => (arL i, .bool true))))) (h8 : Hid (∀ i ∈ L, i.length = 8)) (hn : Hid (bl f ∉ L))
    (h : ∀ w', Hid (MapL w' b ((L ++ [bl f]).map (fun i => (arL i, .bool true)))) → Hid (w.grownBy w' (some b)) → wpList Ybaf.prog ops Q rest (a.put o.dst undef) w') : wpList Ybaf.prog ops Q (o :: rest) a w := by
  refine wpList_plain hg fun K hK => ?_
  obtain ⟨w', h1, h2, h3⟩ := run_enter40 w b f L hL.out h8.out hn.out
  unfold Oper.wp
  have hv : a.eval (.const (.bool true)) = .bool true := rfl
  simp [execOp, hop, hm, hx, hv, h1, Result.andThen]
  exact hK _ _ (h w' (hide h2) (hide h3))
end Go.Proofs.YbulkdznmFmt.A

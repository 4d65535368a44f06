/- 6297C: backed. -/
import Derived.Test.YbulkdzjsC2
import Derived.Test.YbulkdzjsC0
import Derived.Test.YbulkdzjsA4
import Derived.Lib.SmallJoins
import Derived.Deep.RegionLawGrows
namespace Go.Proofs.Ybulkdzjs.A
open Go.RowKit Flt
attribute [local go_sem] run_store_flt

/-- 'append' onto a row of the call's own, as one step of a region that draws its order: with room or without. -/
theorem step_append_mine {P : Program} {ops : Array Oper} {o : Oper} {a : Act} {w : World} {K : Act → World → Prop} {Q : Exit → Act → World → Prop} {E : Prop}
    (hg : o.guard = none) (s x : Operand) (t : TypeId) (hop : o.op = Op.call { callee := Callee.builtin Builtin.append, args := #[s, x], argTypes := #[t, t] })
    (e : TypeId) (i : TypeInfo) (z : Value) (size bytes : Nat) (h1 : P.underlying t = some (.slice e)) (h2 : P.info? e = some i) (h3 : i.zero = some z) (h4 : i.size = size) (h5 : i.bytes = bytes) (h6 : z.cells.size = size) (h7 : 0 < size)
    (base : Nat) (v : Value) (n : Nat) (xs : List Value) (hs : a.eval s = v) (hown : w.ownsRow base e size v n xs)
    (ad : Addr) (m c : Nat) (news : List Value) (hx : a.eval x = .slice (some ad) m c) (hn : news.length = m * size) (hc : ∀ j u, news[j]? = some u → w.cell? (ad.add j) = some u) (h1c : ∀ u ∈ news, u.oneCell' = true)
    (b1 : n + m ≤ maxLen) (b2 : (n + m) * bytes ≤ 140737488355328) (hb : base ≤ w.heap.size)
    (hK : ∀ v' w', w'.ownsRow base e size v' (n + m) (xs ++ news) → w.grownBy w' v.ownBlock → K (a.put o.dst v') w') :
    if Region.wanted o (yielded ops a.tmps) = true then Oper.wp P o a w K Q else E := by
  have hw : Region.wanted o (yielded ops a.tmps) = true := by simp [Region.wanted, hg]
  rw [if_pos hw]
  obtain ⟨v', w', hrun, r1, r2, _⟩ := run_append_own (P := P) w base t o.type e i z size bytes h1 h2 h3 h4 h5 h6 h7 v n xs hown ad m c news hn hc h1c b1 b2 hb
  unfold Oper.wp
  simp [execOp, hop, resolve, invoke, builtin, hs, hx, hrun, Result.andThen]
  exact hK v' w' r1 r2

/-- What has turned since W: the node's room for the values backed, and blocks of the call's own. -/
def Kp (cb : Nat) (W w : World) : Prop := W.grownBy w (some cb) ∧ (∀ o, o ≠ 16 → w.cell? ⟨cb, o, none⟩ = W.cell? ⟨cb, o, none⟩) ∧ w.frozen? ⟨cb, 16, none⟩ = false ∧ cb < W.heap.size
/-- The node's other parts lie in other blocks than the node. -/
def Dj (A : At) (N : Nd) : Prop := A.eb ≠ A.cb ∧ A.vb ≠ A.cb ∧ A.fb ≠ A.cb ∧ ∀ i, i < N.n → N.nn i = true → A.rb i ≠ A.cb
section
variable {A : At} {N : Nd} {W w w' : World} {cb : Nat}
theorem Ro.grown {b n : Nat} {c : Nat → Nat} {row : Option Nat} (h : Ro W b n c) (hg : W.grownBy w row) (hb : some b ≠ row) : Ro w b n c := fun i hi => ⟨hg.cell (h i hi).1 hb, hg.cell (h i hi).2 hb⟩
theorem CCw.kp (h : CCw A N W) (k : Kp A.cb W w) (d : Dj A N) : CCw A N w where
  n0 := (k.2.1 0 (by decide)).trans h.n0
  s7 := (k.2.1 7 (by decide)).trans h.s7
  f8 := (k.2.1 8 (by decide)).trans h.f8
  r9 := (k.2.1 9 (by decide)).trans h.r9
  c10 := (k.2.1 10 (by decide)).trans h.c10
  g11 := (k.2.1 11 (by decide)).trans h.g11
  e12 := (k.2.1 12 (by decide)).trans h.e12
  v13 := (k.2.1 13 (by decide)).trans h.v13
  c14 := (k.2.1 14 (by decide)).trans h.c14
  en := h.en.grown k.1 (by simpa using d.1)
  co := fun i hi => k.1.cell (h.co i hi) (by simpa using d.2.2.1)
  ve := fun i hi => k.1.cell (h.ve i hi) (by simpa using d.2.1)
  ro := fun i hi hn => (h.ro i hi hn).grown k.1 (by simpa using d.2.2.2 i hi hn)
theorem Kp.below (h : Kp cb W w) (hb : Below w.heap.size w w') : Kp cb W w' := by
  have hl : cb < w.heap.size := Nat.lt_of_lt_of_le h.2.2.2 h.1.size
  have g := below_grown hb none
  refine ⟨grown_trans h.1 (below_grown hb _), fun o ho => ?_, ?_, h.2.2.2⟩
  · rw [World.cell?_of_block (g.block cb hl (by simp))]; exact h.2.1 o ho
  · rw [World.frozen?_of_block (g.block cb hl (by simp))]; exact h.2.2.1
theorem Kp.drewN (h : Kp cb W w) (q : Nat) : Kp cb W (w.drewN q) := ⟨⟨h.1.os, h.1.tape, h.1.output, h.1.size, h.1.block⟩, h.2⟩
theorem Kp.store (h : Kp cb W w) (v : Value) : Kp cb W (w.setCell ⟨cb, 16, none⟩ v) :=
  ⟨grown_trans h.1 (grown_setCell _ _ _ _), fun o ho => by rw [World.cell?_setCell_other _ _ _ _ (by intro k; injection k with _ k2 _; exact ho k2.symm)]; exact h.2.1 o ho, by rw [World.frozen?_setCell]; exact h.2.2.1, h.2.2.2⟩
/-- A row of the call's own has turned. -/
theorem Kp.grown {row : Option Nat} (h : Kp cb W w) (hg : w.grownBy w' row) (hr : ∀ g, row = some g → W.heap.size ≤ g) : Kp cb W w' := by
  have hl : cb < w.heap.size := Nat.lt_of_lt_of_le h.2.2.2 h.1.size
  have hc : some cb ≠ row := fun e => by have := hr cb e.symm; have := h.2.2.2; omega
  refine ⟨⟨hg.os.trans h.1.os, hg.tape.trans h.1.tape, hg.output.trans h.1.output, Nat.le_trans h.1.size hg.size, fun k hk hne => ?_⟩, fun o ho => ?_, ?_, h.2.2.2⟩
  · rw [hg.block k (Nat.lt_of_lt_of_le hk h.1.size) (fun e => by have := hr k e.symm; omega)]
    exact h.1.block k hk hne
  · rw [World.cell?_of_block (hg.block cb hl hc)]; exact h.2.1 o ho
  · rw [World.frozen?_of_block (hg.block cb hl hc)]; exact h.2.2.1
end

/-- A finite code's number. -/
def vi : Nat → Int
  | 1 => 1
  | 2 => 2
  | 3 => -1
  | _ => 0
theorem vi_sm (c : Nat) : Sm (vi c) := by unfold Sm vi; split <;> omega
def vS (c : Nat) : Sv := ⟨vi c, vi_sm c⟩
theorem wd_vi (c : Nat) (h : fin c = true) : wd c = F (vi c) := by
  have h2 : c = 1 ∨ c = 2 ∨ c = 3 := by simp only [fin, Bool.or_eq_true, beq_iff_eq] at h; omega
  rcases h2 with rfl | rfl | rfl <;> decide
/-- Node k+1 sends a finite value as entry j0. -/
def Bk (N : Nd) (j0 k : Nat) : Bool := (k + 1 != N.self) && (!N.cf k && (N.nn k && fin (N.vc k j0)))
def Cn (N : Nd) (k : Nat) : Bool := (k + 1 != N.self) && N.cf k
/-- The values backed, k nodes behind. -/
def bl (N : Nd) (j0 : Nat) : Nat → List Sv
  | 0 => []
  | k + 1 => bl N j0 k ++ (if Bk N j0 k then [vS (N.vc k j0)] else [])
def encS (x : Sv) : Value := .float .f64 (F x.1)
theorem bl_len (N : Nd) (j0 k : Nat) : (bl N j0 k).length ≤ k := by
  induction k with
  | zero => exact Nat.le_refl _
  | succ k ih => rw [bl, List.length_append]; split <;> simp <;> omega

/-- A cell pair of the call's own (the result, or 'found'). -/
def Pr (b x : Nat) (y : Bool) (w : World) : Prop := w.cell? ⟨b, 0, none⟩ = some (.float .f64 x) ∧ w.cell? ⟨b, 1, none⟩ = some (.bool y) ∧ w.frozen? ⟨b, 0, none⟩ = false ∧ w.frozen? ⟨b, 1, none⟩ = false
theorem Pr.grown {b x : Nat} {y : Bool} {w w' : World} {row : Option Nat} (h : Pr b x y w) (hg : w.grownBy w' row) (hb : some b ≠ row) : Pr b x y w' := by
  have hl := World.block_lt_of_cell? _ _ h.1
  have e := hg.block b hl hb
  exact ⟨(World.cell?_of_block e).trans h.1, (World.cell?_of_block e).trans h.2.1, (World.frozen?_of_block e).trans h.2.2.1, (World.frozen?_of_block e).trans h.2.2.2⟩
theorem Pr.drewN {b x : Nat} {y : Bool} {w : World} (h : Pr b x y w) (q : Nat) : Pr b x y (w.drewN q) := h
theorem Pr.alloc (w : World) (x : Nat) (y : Bool) (T : TypeId) : Pr w.heap.size x y (w.alloc (.cells #[.float .f64 x, .bool y] T)) :=
  ⟨World.cell?_alloc_at (w := w) _ T _ 0 rfl, World.cell?_alloc_at (w := w) _ T _ 1 rfl, World.frozen?_alloc_at (w := w) _ T _ 0 rfl, World.frozen?_alloc_at (w := w) _ T _ 1 rfl⟩
/-- The first loop: the node's room holds the values backed so far. -/
def L1 (A : At) (W : World) (p : Nat) (N : Nd) (k : Nat) (ao : Option Addr) (m cap : Nat) (wr : World) : Prop :=
  Kp A.cb W wr ∧ Pr W.heap.size 0 false wr ∧ wr.cell? ⟨A.cb, 16, none⟩ = some (.slice ao m cap) ∧ wr.ownsRow (W.heap.size + 1) 26 1 (.slice ao m cap) m ((bl N p k).map encS) ∧ W.heap.size + 1 ≤ wr.heap.size

theorem own_ne {w : World} {base e size n c : Nat} {v : Value} {xs : List Value} (h : w.ownsRow base e size v n xs) (hc : c < base) : some c ≠ v.ownBlock := by
  rcases h.2 with ⟨rfl, _⟩ | ⟨g, cap, cur, rfl, hg, _⟩
  · simp [Value.ownBlock]
  · simp [Value.ownBlock]; omega
/-- Behind the append and the store. -/
theorem app_step {A : At} {N : Nd} {W Wa wr w2 : World} {p k m cap : Nat} {ao : Option Addr} {v' : Value} (h : L1 A W p N k ao m cap wr) (hb : Below wr.heap.size wr Wa) (hB : Bk N p k = true)
    (ho : w2.ownsRow (W.heap.size + 1) 26 1 v' (m + 1) ((bl N p k).map encS ++ [.float .f64 (wd (N.vc k p))])) (hg : Wa.grownBy w2 (Value.slice ao m cap).ownBlock) :
    ∃ g cap', v' = .slice (some ⟨g, 0, none⟩) (m + 1) cap' ∧ w2.cell? ⟨A.cb, 16, none⟩ = some (.slice ao m cap) ∧ w2.frozen? ⟨A.cb, 16, none⟩ = false ∧
      Hid (L1 A W p N (k + 1) (some ⟨g, 0, none⟩) (m + 1) cap' (w2.setCell ⟨A.cb, 16, none⟩ (.slice (some ⟨g, 0, none⟩) (m + 1) cap'))) := by
  obtain ⟨h1, h2, h3, h4, h5⟩ := h
  have hcW := h1.2.2.2
  have ka := h1.below hb
  have hcr : A.cb < wr.heap.size := World.block_lt_of_cell? _ _ h3
  have hne := own_ne h4 (c := A.cb) (by omega)
  have hne2 := own_ne h4 (c := W.heap.size) (by omega)
  have k2 : Kp A.cb W w2 := ka.grown hg (fun g e => by
    rcases h4.2 with ⟨e1, _⟩ | ⟨g', _, _, e1, hgb, _⟩
    · rw [e1] at e; simp [Value.ownBlock] at e
    · rw [e1] at e; simp [Value.ownBlock] at e; omega)
  have ca : Wa.cell? ⟨A.cb, 16, none⟩ = some (.slice ao m cap) := below_cell hb hcr h3
  have c2 := hg.cell ca hne
  obtain ⟨g, cap', rfl⟩ := Joins.ownsRow_form ho (by omega)
  have hgb : W.heap.size + 1 ≤ g := by
    rcases ho.2 with ⟨e, _⟩ | ⟨g', _, _, e, hgb, _⟩
    · cases e
    · cases e; exact hgb
  refine ⟨g, cap', rfl, c2, k2.2.2.1, hide ⟨k2.store _, ?_, World.cell?_setCell_same _ _ _ c2, ?_, ?_⟩⟩
  · exact (((h2.grown (below_grown hb none) (by simp)).grown hg hne2).grown (grown_setCell w2 A.cb 16 _) (by intro e; injection e with e; omega))
  · have e : (bl N p (k + 1)).map encS = (bl N p k).map encS ++ [.float .f64 (wd (N.vc k p))] := by
      have hf : fin (N.vc k p) = true := by
        simp only [Bk, Bool.and_eq_true] at hB; exact hB.2.2.2
      rw [bl, if_pos hB, List.map_append, wd_vi _ hf]
      rfl
    rw [e]
    exact ho.kept (grown_setCell w2 A.cb 16 _) (Or.inr (by simp [Value.ownBlock]; omega))
  · have := hg.size
    have := hb.size
    simp
    omega

open Go.Sort in
/-- Behind the sort. -/
def L2 (A : At) (W : World) (xs : List Sv) (m : Nat) (ao : Option Addr) (cap g : Nat) (d : Array Sv) (w : World) : Prop :=
  Kp A.cb W w ∧ Pr W.heap.size 0 false w ∧ w.cell? ⟨A.cb, 16, none⟩ = some (.slice ao m cap) ∧ d.size = m ∧ d.toList.Perm xs ∧ SortedIn lts 0 m d ∧
  (0 < m → ao = some ⟨g, 0, none⟩ ∧ W.heap.size + 1 ≤ g ∧ ∀ i, i < m → w.cell? ⟨g, i, none⟩ = some (.float .f64 (F (d[i]!).1))) ∧ W.heap.size + 1 ≤ w.heap.size
section
open Go.Sort
variable {A : At} {N : Nd} {W w w' : World} {p n m cap g : Nat} {ao : Option Addr} {xs : List Sv} {d : Array Sv}
theorem l2_none {ao : Option Addr} {cap : Nat} (h : L1 A W p N n ao 0 cap w) (hm : xs.length = 0) : L2 A W xs 0 ao cap 0 #[] w := by
  obtain ⟨h1, h2, h3, _, h5⟩ := h
  refine ⟨h1, h2, h3, rfl, ?_, fun i j _ _ h => by omega, fun h => by omega, h5⟩
  rw [List.eq_nil_of_length_eq_zero hm]
theorem l2_cell (h : L1 A W p N n (some ⟨g, 0, none⟩) m cap w) (hx : bl N p n = xs) (hm : xs.length = m) {i : Nat} (hi : i < m) : w.cell? ⟨g, i, none⟩ = some (.float .f64 (F (xs.toArray[i]!).1)) := by
  obtain ⟨_, _, _, h4, _⟩ := h
  rw [hx] at h4
  rw [h4.cellAt i (by omega), List.getElem?_map, List.getElem?_eq_getElem (by omega), getElem!_pos xs.toArray i (by simpa using (by omega : i < xs.length))]
  simp [encS]
theorem l2_fr (h : L1 A W p N n (some ⟨g, 0, none⟩) m cap w) (hx : bl N p n = xs) (hm : xs.length = m) : Fr w g m xs.toArray w :=
  ⟨by simpa using hm, fun i hi => ⟨l2_cell h hx hm hi, h.2.2.2.1.frozenAt i⟩, grown_refl _ _⟩
theorem l2_some (h : L1 A W p N n (some ⟨g, 0, none⟩) m cap w) (hm : xs.length = m) (hg : W.heap.size + 1 ≤ g) (hp : PermIn 0 m xs.toArray d) (hs : SortedIn lts 0 m d) (hf : Fr w g m d w') : L2 A W xs m (some ⟨g, 0, none⟩) cap g d w' := by
  obtain ⟨h1, h2, h3, h4, h5⟩ := h
  have hcW := h1.2.2.2
  have hpe : d.toList.Perm xs := by
    have := hp.2.2
    rw [show xs.toArray.extract 0 m = xs.toArray by rw [← hm]; simp, show d.extract 0 m = d by rw [← hf.1]; simp] at this
    simpa using this
  refine ⟨h1.grown hf.2.2 (fun k e => by injection e with e; omega), h2.grown hf.2.2 (by intro e; injection e with e; omega), hf.2.2.cell h3 (by intro e; have e : A.cb = g := (by injection e); omega), hf.1, hpe, hs, fun _ => ⟨rfl, hg, fun i hi => (hf.2.1 i hi).1⟩, Nat.le_trans h5 hf.2.2.size⟩
theorem below_pr {b x : Nat} {y : Bool} (h : Pr b x y w) (hb : Below w.heap.size w w') : Pr b x y w' := h.grown (below_grown hb none) (by simp)
end
/-- In the second loop: the row is sorted; 'found' lies in block sb. -/
def L3 (A : At) (W : World) (m g : Nat) (d : Array Sv) (sb x : Nat) (y : Bool) (w : World) : Prop :=
  Kp A.cb W w ∧ Pr W.heap.size 0 false w ∧ Pr sb x y w ∧ W.heap.size < sb ∧ (0 < m → sb ≠ g) ∧ ∀ i, i < m → w.cell? ⟨g, i, none⟩ = some (.float .f64 (F (d[i]!).1))
section
variable {A : At} {W w w' : World} {m cap g : Nat} {ao : Option Addr} {xs : List Sv} {d : Array Sv} {sb x : Nat} {y : Bool}
theorem L3.drewN (h : L3 A W m g d sb x y w) (q : Nat) : L3 A W m g d sb x y (w.drewN q) := ⟨h.1.drewN q, h.2⟩
theorem l3_start (h : L2 A W xs m ao cap g d w) : L3 A W m g d w.heap.size 0 false (w.alloc (.cells #[.float .f64 0, .bool false] 69)) := by
  obtain ⟨h1, h2, h3, h4, h5, h6, h7, h8⟩ := h
  have hb : Below w.heap.size w (w.alloc (.cells #[.float .f64 0, .bool false] 69)) := (Below.refl _ _).alloc (Nat.le_refl _) _
  refine ⟨h1.below hb, h2.grown (below_grown hb none) (by simp), Pr.alloc w 0 false 69, by omega, fun hm => ?_, fun i hi => ?_⟩
  · have := World.block_lt_of_cell? _ _ ((h7 hm).2.2 0 hm)
    have e : g < w.heap.size := this
    omega
  · have hc := (h7 (by omega)).2.2 i hi
    exact below_cell hb (World.block_lt_of_cell? _ _ hc) hc
/-- 'found' is written. -/
theorem L3.put (h : L3 A W m g d sb x y w) (x' : Nat) (y' : Bool) : L3 A W m g d sb x' y' ((w.setCell ⟨sb, 0, none⟩ (.float .f64 x')).setCell ⟨sb, 1, none⟩ (.bool y')) := by
  obtain ⟨h1, h2, h3, h4, h5, h6⟩ := h
  have g1 := grown_setCell w sb 0 (.float .f64 x')
  have g2 := grown_setCell (w.setCell ⟨sb, 0, none⟩ (.float .f64 x')) sb 1 (.bool y')
  have gg := grown_trans g1 g2
  have n1 : (⟨sb, 0, none⟩ : Addr) ≠ ⟨sb, 1, none⟩ := by intro e; injection e with _ e _; cases e
  refine ⟨h1.grown gg (fun k e => by injection e with e; omega), h2.grown gg (by intro e; injection e with e; omega), ⟨?_, ?_, ?_, ?_⟩, h4, h5, fun i hi => gg.cell (h6 i hi) (by intro e; have e : g = sb := (by injection e); exact h5 (by omega) e.symm)⟩
  · rw [World.cell?_setCell_other _ _ _ _ n1.symm]; exact World.cell?_setCell_same _ _ _ h3.1
  · exact World.cell?_setCell_same _ _ _ ((World.cell?_setCell_other _ _ _ _ n1).trans h3.2.1)
  · rw [World.frozen?_setCell, World.frozen?_setCell]; exact h3.2.2.1
  · rw [World.frozen?_setCell, World.frozen?_setCell]; exact h3.2.2.2
/-- The result is written. -/
theorem L3.done (h : L3 A W m g d sb x y w) (x' : Nat) (y' : Bool) : Kp A.cb W ((w.setCell ⟨W.heap.size, 0, none⟩ (.float .f64 x')).setCell ⟨W.heap.size, 1, none⟩ (.bool y')) :=
  h.1.grown (grown_trans (grown_setCell w W.heap.size 0 _) (grown_setCell _ W.heap.size 1 _)) (fun k e => by injection e with e; omega)
end

set_option maxRecDepth 100000 in
set_option maxHeartbeats 4000000 in
theorem backed_f (A : At) (N : Nd) (j : Nat) (w : World) (h : CCw A N w) (hd : Dj A N) (h1 : 1 ≤ j) (hj : j ≤ N.n) (hn : N.n ≤ 256) (hf : N.f ≤ 256) (hv : ∀ k i, N.vc k i ≤ 5)
    (h16 : w.cell? ⟨A.cb, 16, none⟩ = some (.slice none 0 0)) (f16 : w.frozen? ⟨A.cb, 16, none⟩ = false) :
    Calls Yba.prog 28 #[.pointer (some ⟨A.cb, 0, none⟩), .int .i64 j] w fun e w' => ∃ (x : Nat) (y : Bool), e = .returned (.agg #[.float .f64 x, .bool y]) ∧ Res (bl N (j - 1) N.n) (1 + cnt (Cn N) N.n) ((N.n : Int) - N.f) x y ∧ Kp A.cb w w' := by
  obtain ⟨p, hp⟩ : ∃ p : Nat, (j : Int) - 1 = p := ⟨j - 1, by omega⟩
  have hp' : Hid (j - 1 = p) := hide (by omega)
  have i1 : (p : Int) < N.n := by omega
  have H := hide h
  have Hv := hide hv
  have Hd := hide hd
  have hcb : A.cb < w.heap.size := World.block_lt_of_cell? _ _ h16
  clear h hv hd
  go_enter Yba.func28, Yba.ntmps28
  go_upto_block 0 with fail
  have HS : Hid (L1 A w p N 0 none 0 0 ((w.setCell ⟨A.cb, 16, none⟩ (.slice none 0 0)).alloc (.cells #[.float .f64 0, .bool false] 69))) := hide (by
    have k0 : Kp A.cb w w := ⟨grown_refl _ _, fun _ _ => rfl, f16, hcb⟩
    have hb : A.cb < (w.setCell ⟨A.cb, 16, none⟩ (.slice none 0 0)).heap.size := by simpa using hcb
    have hz : (w.setCell ⟨A.cb, 16, none⟩ (.slice none 0 0)).heap.size = w.heap.size := by simp
    refine ⟨(k0.store _).below ((Below.refl _ _).alloc (Nat.le_refl _) _), ?_, ?_, World.ownsRow_nil _ _ _ _, ?_⟩
    · have := Pr.alloc (w.setCell ⟨A.cb, 16, none⟩ (.slice none 0 0)) 0 false 69
      rw [hz] at this
      exact this
    · rw [World.cell?_alloc_past _ _ _ hb]
      exact World.cell?_setCell_same _ _ _ h16
    · show _ ≤ (Array.push _ _).size
      rw [Array.size_push, hz]
      exact Nat.le_refl _)
  generalize (w.setCell ⟨A.cb, 16, none⟩ (.slice none 0 0)).alloc (.cells #[.float .f64 0, .bool false] 69) = w1 at HS ⊢
  obtain ⟨i0, hi, hz0, hz1, hz2⟩ := info_parts Yba.info26
  go_cut [5] (fun vc wx => ∃ (ao : Option Addr) (m cap : Nat), vc = .int .i64 (1 + cnt (Cn N) N.n : Nat) ∧ Hid (L1 A w p N N.n ao m cap wx))
  case first =>
    go_wp2_with fail
    go_loopg [5, 6] N.n (fun g vc vk wr => ∃ (k : Nat) (ao : Option Addr) (m cap : Nat), vk = .int .i64 (k + 1) ∧ vc = .int .i64 (1 + cnt (Cn N) k : Nat) ∧ k + g = N.n ∧ Hid (L1 A w p N k ao m cap wr))
    case atStart => exact ⟨0, none, 0, 0, rfl, rfl, by omega, HS⟩
    case round =>
      obtain ⟨k, ao, m, cap, rfl, rfl, hk, HO⟩ := hrel
      have C := hide (H.out.kp HO.out.1 Hd.out)
      have hn0 := C.out.n0
      have hs7 := C.out.s7
      have hv13 := C.out.v13
      have hc14 := C.out.c14
      have hle := cnt_le (Cn N) k
      obtain ⟨M, hM⟩ : ∃ M : Nat, Hid (1 + cnt (Cn N) k = M) := ⟨_, hide rfl⟩
      have hM' : M ≤ 257 := by have := hM.out; omega
      rw [hM.out]
      clear hle
      have step : Hid (∀ b : Bool, Cn N k = b → 1 + cnt (Cn N) (k + 1) = M + (if b then 1 else 0)) := hide (fun b e => by rw [cnt, e, ← hM.out]; omega)
      cases gk with
      | zero =>
        obtain rfl : k = N.n := by omega
        go_wp2_with fail
        go_meet
        case rel => exact ⟨ao, m, cap, by rw [hM.out], HO⟩
      | succ g =>
        have hlt : k < N.n := by omega
        have hlt' : (k : Int) < N.n := by omega
        have hlt2 : (k : Int) + 1 ≤ N.n := by omega
        have hco := C.out.co k hlt
        have hve := C.out.ve k hlt
        have same : Hid (Bk N p k = false → L1 A w p N (k + 1) ao m cap wr) := hide (fun e => by
          have e' : bl N p (k + 1) = bl N p k := by rw [bl, e]; simp
          unfold L1
          rw [e']
          exact HO.out)
        by_cases hse : k + 1 = N.self
        · have hse' : ((k : Int) + 1 == (N.self : Int)) = true := by simp; omega
          go_wp2_with fail
          go_roundg g
          case measure => omega
          case rel => exact ⟨k + 1, ao, m, cap, by go_num, by rw [step.out false (by simp [Cn, hse])]; rfl, by omega, hide (same.out (by simp [Bk, hse]))⟩
        · have hse' : ((k : Int) + 1 == (N.self : Int)) = false := by simp; omega
          have hse2 : Hid ((k + 1 != N.self) = true) := hide (by simpa using hse)
          obtain ⟨b1, hb1⟩ : ∃ b1, Hid (N.cf k = b1) := ⟨_, hide rfl⟩
          rw [hb1.out] at hco
          cases b1
          · have hC : Hid (Cn N k = false) := hide (by simp [Cn, hb1.out])
            obtain ⟨b2, hb2⟩ : ∃ b2, Hid (N.nn k = b2) := ⟨_, hide rfl⟩
            rw [hb2.out] at hve
            cases b2
            · have hve' : wr.cell? ⟨A.vb, k, none⟩ = some (.slice none 0 0) := by simpa using hve
              clear hve
              have hneq := fun W => run_neq_slice_nil_any (P := Yba.prog) W 66 69 none 0 0 0 0 Yba.underlying66
              go_wp2_with fail
              go_roundg g
              case measure => omega
              case rel => exact ⟨k + 1, ao, m, cap, by go_num, by rw [step.out false hC.out]; rfl, by omega, hide (same.out (by simp [Bk, hb2.out]))⟩
            · have hve' : wr.cell? ⟨A.vb, k, none⟩ = some (.slice (some ⟨A.rb k, 0, none⟩) N.n N.n) := by simpa using hve
              clear hve
              have hneq := fun W => run_neq_slice_nil_any (P := Yba.prog) W 66 69 (some ⟨A.rb k, 0, none⟩) N.n N.n 0 0 Yba.underlying66
              obtain ⟨q1, q2⟩ := C.out.ro k hlt hb2.out p (by omega)
              obtain ⟨c, hc⟩ : ∃ c, Hid (N.vc k p = c) := ⟨_, hide rfl⟩
              rw [hc.out] at q1 q2
              have hc5 : c ≤ 5 := by rw [← hc.out]; exact Hv.out k p
              have hB : Hid (Bk N p k = fin c) := hide (by simp [Bk, hse2.out, hb1.out, hb2.out, hc.out])
              by_cases hc0 : c = 0
              · subst hc0
                have q2' : wr.cell? ⟨A.rb k, p * 2 + 1, none⟩ = some (.bool false) := q2
                clear q2
                go_wp2_with fail
                go_roundg g
                case measure => omega
                case rel => exact ⟨k + 1, ao, m, cap, by go_num, by rw [step.out false hC.out]; rfl, by omega, hide (same.out hB.out)⟩
              · have q2' : wr.cell? ⟨A.rb k, p * 2 + 1, none⟩ = some (.bool true) := by rw [q2]; simp [vd, hc0]
                clear q2
                obtain ⟨b3, hb3⟩ : ∃ b3, Hid (fin c = b3) := ⟨_, hide rfl⟩
                have hfin := fun W => finite_f c (by omega) W
                rw [hb3.out] at hfin
                cases b3
                · go_wp2_with (first | (go_at_call 43; refine (hfin _).mono ?_; rintro e w' ⟨rfl, rfl⟩) | fail)
                  go_roundg g
                  case measure => omega
                  case rel => exact ⟨k + 1, ao, m, cap, by go_num, by rw [step.out false hC.out]; rfl, by omega, hide (same.out (by rw [hB.out, hb3.out]))⟩
                · go_wp2_with (first | (go_at_call 43; refine (hfin _).mono ?_; rintro e w' ⟨rfl, rfl⟩) | fail)
                  have h16r := HO.out.2.2.1
                  have f16r := HO.out.1.2.2.1
                  have hown := hide HO.out.2.2.2.1
                  have hcbr : A.cb < w'.heap.size := World.block_lt_of_cell? _ _ h16r
                  have wp := wrapN p (by omega)
                  have hbl := bl_len N p k
                  have hlen : Hid (((bl N p k).map encS).length = m * 1) := hide hown.out.1
                  have hmk : m ≤ 256 := by have := hlen.out; rw [List.length_map] at this; omega
                  have hbs : Hid (w.heap.size + 1 ≤ w'.heap.size) := hide HO.out.2.2.2.2
                  have hBt : Hid (Bk N p k = true) := hide (by rw [hB.out, hb3.out])
                  go_region_law (refine step_append_mine rfl (.tmp 75) (.tmp 82) 24 rfl 26 i0 (.float .f64 0) 1 8 Yba.underlying24 hi hz0 hz1 hz2 rfl (by decide) (w.heap.size + 1) (.slice ao m cap) m ((bl N p k).map encS) (by simp [Act.eval]) (by first | exact (hown.out.alloc _).drew | exact hown.out.drew.alloc _) ⟨w'.heap.size, 0, none⟩ 1 1 [.float .f64 (wd c)] (by simp [Act.eval]) rfl (by intro j u hu; rcases j with _ | j <;> simp at hu; subst hu; exact World.cell?_alloc_at (w := w') _ 26 _ 0 rfl) (by simp [Value.oneCell']) (by unfold maxLen; omega) (by omega) (by have := hbs.out; show _ ≤ (Array.push _ _).size; rw [Array.size_push]; omega) ?_; intro v' w2 ho2 hg2; obtain ⟨g', cap', rfl, c2, f2, HL⟩ := app_step HO.out (by first | exact ((Below.refl _ _).alloc (Nat.le_refl _) _).drew | exact (Below.refl _ _).drew.alloc (Nat.le_refl _) _) hBt.out (by rw [hc.out]; exact ho2) hg2; clear ho2 hg2)
                  all_goals go_wp2_with fail
                  all_goals go_roundg g
                  all_goals first | omega | exact ⟨k + 1, _, m + 1, _, by go_num, by rw [step.out false hC.out]; rfl, by omega, HL⟩
          · go_wp2_with fail
            go_roundg g
            case measure => omega
            case rel => exact ⟨k + 1, ao, m, cap, by go_num, by rw [step.out true (by simp [Cn, hse2.out, hb1.out])]; go_num, by omega, hide (same.out (by simp [Bk, hb1.out]))⟩
  case rest =>
    clear HS
    obtain ⟨ao, m, cap, rfl, HL⟩ := hcut
    have hcl := cnt_le (Cn N) N.n
    obtain ⟨conf, hconf⟩ : ∃ M : Nat, Hid (1 + cnt (Cn N) N.n = M) := ⟨_, hide rfl⟩
    have hcf' : conf ≤ 257 := by have := hconf.out; omega
    rw [hconf.out]
    clear hcl
    obtain ⟨xs, hxs⟩ : ∃ xs, Hid (bl N p N.n = xs) := ⟨_, hide rfl⟩
    have hm0 : Hid (xs.length = m) := hide (by have := HL.out.2.2.2.1.1; rw [hxs.out, List.length_map] at this; omega)
    have hm : m ≤ 256 := by have := bl_len N p N.n; rw [hxs.out, hm0.out] at this; omega
    have h16r := HL.out.2.2.1
    go_upto_region 12 with fail
    go_cut [] (fun wx => ∃ (g : Nat) (d : Array Sv), m ≤ cap ∧ Hid (L2 A w xs m ao cap g d wx))
    case first =>
      rcases HL.out.2.2.2.1.2 with ⟨e1, rfl⟩ | ⟨g, cap', cur, e1, hgb, hcells, hcc, hmx, hsz, htk⟩
      · cases e1
        go_wp2_with (first | (go_at_call 44; refine (sort_none _ _ _).mono ?_; rintro e w' ⟨rfl, rfl⟩) | fail)
        go_meet
        case rel => exact ⟨0, #[], Nat.le_refl _, hide (l2_none HL.out hm0.out)⟩
      · cases e1
        have HF := hide (l2_fr HL.out hxs.out hm0.out)
        have hgl : g < wc.heap.size := by
          rcases Nat.lt_or_ge g wc.heap.size with h | h
          · exact h
          · rw [Array.getElem?_eq_none h] at hcells; cases hcells
        clear hcells htk
        go_wp2_with fail
        refine (sort_f g m cap _ wc hgl (by omega) HF.out).mono ?_
        rintro e w2 ⟨d, rfl, hp1, hs1, hf1⟩
        have HD := hide (l2_some HL.out hm0.out hgb hp1 hs1 hf1)
        clear hp1 hs1 hf1
        go_wp2_with fail
        go_meet
        case rel => exact ⟨g, d, hcc, HD⟩
    case rest =>
      clear HL h16r
      obtain ⟨g, d, hmc, HD⟩ := hcut
      obtain ⟨wq, rfl⟩ : ∃ wq : World, wq = wc := ⟨_, rfl⟩
      have h16r := HD.out.2.2.1
      have hcbq : A.cb < wq.heap.size := World.block_lt_of_cell? _ _ h16r
      have hsd := hide (show Go.Sort.SortedIn lts 0 d.size d by rw [HD.out.2.2.2.1]; exact HD.out.2.2.2.2.2.1)
      have hdm := hide HD.out.2.2.2.1
      have hpm := hide HD.out.2.2.2.2.1
      have H3 := hide (l3_start HD.out)
      have hao : Hid (0 < m → ao = some ⟨g, 0, none⟩) := hide (fun h => (HD.out.2.2.2.2.2.2.1 h).1)
      go_wp2_with fail
      generalize wq.alloc (Obj.cells #[Value.float FloatKind.f64 0, Value.bool false] 69) = w3 at H3 ⊢
      generalize wq.heap.size = sb at H3 ⊢
      clear HD h16r hcbq
      go_loopg [9] m (fun k v wr => ∃ (off l : Nat) (ra : Option Addr) (rc x : Nat) (y : Bool), v = .slice ra l rc ∧ off + l = m ∧ l ≤ k ∧ l ≤ rc ∧ Hid (0 < l → ra = some ⟨g, off, none⟩) ∧ Hid (L3 A w m g d sb x y wr) ∧ Hid (Fd d conf ((N.n : Int) - N.f) off x y))
      case atStart => exact ⟨0, m, ao, cap, 0, false, rfl, by omega, Nat.le_refl _, hmc, hao, H3, hide fd_start⟩
      case round =>
        clear H3 hao
        obtain ⟨off, l, ra, rc, x, y, rfl, hol, hlk, hlr, hra, H3, HFd⟩ := hrel
        have C := hide (H.out.kp H3.out.1 Hd.out)
        have hn0 := C.out.n0
        have hf8 := C.out.f8
        obtain ⟨p1, p2, p3, p4⟩ := H3.out.2.2.1
        obtain ⟨r1, r2, r3, r4⟩ := H3.out.2.1
        have hq0 : ∀ v, (wr.setCell ⟨w.heap.size, 0, none⟩ v).cell? ⟨w.heap.size, 0, none⟩ = some v := fun v => World.cell?_setCell_same _ _ _ r1
        have hq1 : ∀ u v, ((wr.setCell ⟨w.heap.size, 0, none⟩ u).setCell ⟨w.heap.size, 1, none⟩ v).cell? ⟨w.heap.size, 1, none⟩ = some v := fun u v => World.cell?_setCell_same _ _ _ ((World.cell?_setCell_other _ _ _ _ (by intro e; injection e with _ e _; cases e)).trans r2)
        by_cases hl0 : l = 0
        · subst hl0
          go_wp2_with fail
          refine bodyPost_ret (by simp [results, Yba.results28, go_sem, hq0, hq1]; try rfl) rfl ?_
          refine ⟨x, y, rfl, ?_, H3.out.done x y⟩
          have hof : off = d.size := by have := hdm.out; omega
          have e := HFd.out
          rw [hof] at e
          rw [hp'.out, hxs.out, hconf.out]
          exact fd_end e hpm.out
        · have hl1 : (0 : Int) < l := by omega
          have hl2 : 0 < l := by omega
          have hl3 : decide (0 < l) = true := by simpa using hl2
          obtain rfl := hra.out (by omega)
          go_upto_block 4 with fail
          go_cut [10] (fun v wx => ∃ s : Nat, v = .int .i64 s ∧ 1 ≤ s ∧ s ≤ l ∧ Hid (L3 A w m g d sb x y wx) ∧ Hid (Run d off s))
          case first =>
            go_wp2_with fail
            go_loopw [10] (fun v wx => ∃ s : Nat, v = .int .i64 s ∧ 1 ≤ s ∧ s ≤ l ∧ Hid (L3 A w m g d sb x y wx) ∧ Hid (∀ i, i < s → d[off + i]! = d[off]!)) (fun v _ => l - (intOf v).toNat)
            case atStart => exact ⟨1, rfl, Nat.le_refl _, by omega, H3, hide (fun i hi => by rw [show i = 0 by omega]; rfl)⟩
            case round =>
              obtain ⟨s, rfl, hs1, hsl, H4, HR⟩ := hrel
              by_cases hlt : s < l
              · have hlt' : (s : Int) < l := by omega
                obtain ⟨G, hG, hS⟩ := names d
                have c1 : wr.cell? ⟨g, off + s, none⟩ = some (.float .f64 (F (G (off + s)))) := by rw [hG.out]; exact H4.out.2.2.2.2.2 _ (by omega)
                have c2 : wr.cell? ⟨g, off, none⟩ = some (.float .f64 (F (G off))) := by rw [hG.out]; exact H4.out.2.2.2.2.2 _ (by omega)
                have s1 := hS (off + s)
                have s2 := hS off
                obtain ⟨b, hb⟩ : ∃ b, (FloatKind.f64.format.order (F (G (off + s))) (F (G off)) == some .eq) = b := ⟨_, rfl⟩
                have hbe : Hid (b = decide (G (off + s) = G off)) := hide (by
                  rw [← hb]; unfold Sm at s1 s2; exact order_eq (val_F _ (by omega)) (val_F _ (by omega)))
                clear s1 s2
                cases b
                · go_wp2_with fail
                  go_quiet (fail)
                  go_wp2_with fail
                  go_meet
                  case rel =>
                    refine ⟨s, rfl, hs1, hsl, hide (H4.out.drewN _), hide ⟨HR.out, fun _ e => ?_⟩⟩
                    have := hbe.out
                    rw [eq_comm, decide_eq_false_iff_not, hG.out, hG.out, e] at this
                    exact this rfl
                · go_wp2_with fail
                  go_quiet (fail)
                  go_wp2_with fail
                  go_roundw
                  case rel =>
                    refine ⟨s + 1, by go_num, by omega, by omega, hide (H4.out.drewN _), hide (fun i hi => ?_)⟩
                    by_cases e : i < s
                    · exact HR.out i e
                    · have := hbe.out
                      rw [eq_comm, decide_eq_true_eq, hG.out, hG.out] at this
                      rw [show i = s by omega]
                      exact Subtype.ext this
                  case measure => simp [intOf]; omega
              · have hlt' : ¬ (s : Int) < l := by omega
                go_wp2_with fail
                go_quiet (fail)
                go_wp2_with fail
                go_meet
                case rel => exact ⟨s, rfl, hs1, hsl, hide (H4.out.drewN _), hide ⟨HR.out, fun h => by have := hdm.out; omega⟩⟩
          case rest =>
            obtain ⟨s, rfl, hs1, hsl, H4, HR⟩ := hcut
            obtain ⟨wz, rfl⟩ : ∃ wz : World, wz = wc := ⟨_, rfl⟩
            clear C hn0 hf8 p1 p2 p3 p4 r1 r2 r3 r4 hq0 hq1 H3
            have C := hide (H.out.kp H4.out.1 Hd.out)
            have hn0 := C.out.n0
            have hf8 := C.out.f8
            have hle : Hid (off + s ≤ d.size) := hide (by have := hdm.out; omega)
            by_cases hq : (N.n : Int) - N.f ≤ (conf : Int) + s
            · have hqd : decide ((N.n : Int) - N.f ≤ (conf : Int) + s) = true := by simpa using hq
              go_wp2_with fail
              go_quiet (fail)
              have H5 := hide (H4.out.drewN nq)
              generalize wz.drewN nq = wv at H5 ⊢
              obtain ⟨p1, p2, p3, p4⟩ := H5.out.2.2.1
              obtain ⟨r1, r2, r3, r4⟩ := H5.out.2.1
              cases y
              · have c0 := H5.out.2.2.2.2.2 off (by omega)
                have HFn := hide (fd_first hsd.out HFd.out HR.out hs1 hle.out (by push_cast; exact hq))
                have H6 := hide (H5.out.put (F (d[off]!).1) true)
                go_wp2_with fail
                all_goals go_roundg (l - s)
                all_goals first
                  | omega
                  | exact ⟨off + s, l - s, _, _, _, _, rfl, by omega, Nat.le_refl _, by omega, hide (fun hp => by first | rfl | omega), H6, HFn⟩
              · have hq0 : ∀ v, (wv.setCell ⟨w.heap.size, 0, none⟩ v).cell? ⟨w.heap.size, 0, none⟩ = some v := fun v => World.cell?_setCell_same _ _ _ r1
                have hq1 : ∀ u v, ((wv.setCell ⟨w.heap.size, 0, none⟩ u).setCell ⟨w.heap.size, 1, none⟩ v).cell? ⟨w.heap.size, 1, none⟩ = some v := fun u v => World.cell?_setCell_same _ _ _ ((World.cell?_setCell_other _ _ _ _ (by intro e; injection e with _ e _; cases e)).trans r2)
                go_wp2_with fail
                (try simp only [Exit.inBlock, Exit.then])
                refine bodyPost_ret (by simp [results, Yba.results28, go_sem, hq0, hq1]; try rfl) rfl ?_
                refine ⟨0, false, rfl, ?_, H5.out.done 0 false⟩
                rw [hp'.out, hxs.out, hconf.out]
                exact fd_second hsd.out HFd.out HR.out hs1 hle.out (by push_cast; exact hq) hpm.out
            · have hqd : decide ((N.n : Int) - N.f ≤ (conf : Int) + s) = false := by simpa using hq
              go_wp2_with fail
              go_quiet (fail)
              have HFn := hide (fd_short hsd.out HFd.out HR.out hs1 hle.out (by omega))
              have H6 := hide (H4.out.drewN nq)
              go_wp2_with fail
              all_goals go_roundg (l - s)
              all_goals first
                | omega
                | exact ⟨off + s, l - s, _, _, _, _, rfl, by omega, Nat.le_refl _, by omega, hide (fun hp => by first | rfl | omega), H6, HFn⟩
end Go.Proofs.Ybulkdzjs.A

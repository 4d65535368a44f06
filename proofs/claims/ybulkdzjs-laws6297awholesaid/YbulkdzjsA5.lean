import Derived.Test.YbulkdzjsA4
import Derived.Test.YbulkdzjsShelf
import Derived.Sort.OwnSortedInts
namespace Go.Proofs.Ybulkdzjs.A
open Go.RowKit Flt

/-- A row of cells of the call's own: what each holds; none is frozen. -/
def Rw (w : World) (b n : Nat) (V : Nat → Value) : Prop := ∀ i, i < n → w.cell? ⟨b, i, none⟩ = some (V i) ∧ w.frozen? ⟨b, i, none⟩ = false
section
variable {w w' : World} {b n : Nat} {V : Nat → Value}
theorem Rw.lt (h : Rw w b n V) (hn : 0 < n) : b < w.heap.size := World.block_lt_of_cell? _ _ (h 0 hn).1
theorem Rw.congr {V' : Nat → Value} (h : Rw w b n V) (e : ∀ i, i < n → V i = V' i) : Rw w b n V' := fun i hi => ⟨by rw [← e i hi]; exact (h i hi).1, (h i hi).2⟩
theorem Rw.grown {row : Option Nat} (h : Rw w b n V) (hg : w.grownBy w' row) (hb : some b ≠ row) : Rw w' b n V := fun i hi => by
  have hlt := World.block_lt_of_cell? _ _ (h i hi).1
  exact ⟨(World.cell?_of_block (hg.block b hlt hb)).trans (h i hi).1, (World.frozen?_of_block (hg.block b hlt hb)).trans (h i hi).2⟩
theorem Rw.below (h : Rw w b n V) (hb : Below w.heap.size w w') : Rw w' b n V := h.grown (below_grown hb none) (by simp)
theorem Rw.set (h : Rw w b n V) (k : Nat) (hk : k < n) (u : Value) : Rw (w.setCell ⟨b, k, none⟩ u) b n (fun i => if i = k then u else V i) := fun i hi => by
  refine ⟨?_, ?_⟩
  · show _ = some (if i = k then u else V i)
    by_cases e : i = k
    · subst e; rw [if_pos rfl]; exact World.cell?_setCell_same w _ _ (h i hi).1
    · rw [if_neg e, World.cell?_setCell_other w _ _ _ (by intro e'; injection e' with _ e2; exact e e2.symm)]; exact (h i hi).1
  · exact (World.frozen?_setCell w _ _ _).trans (h i hi).2
theorem Rw.other (h : Rw w b n V) {b' : Nat} (hb : b ≠ b') (k : Nat) (u : Value) : Rw (w.setCell ⟨b', k, none⟩ u) b n V := fun i hi => by
  refine ⟨?_, ?_⟩
  · rw [World.cell?_setCell_other w _ _ _ (by intro e'; injection e' with e1 _; exact hb e1.symm)]; exact (h i hi).1
  · exact (World.frozen?_setCell w _ _ _).trans (h i hi).2
theorem Rw.of_own {B : Nat} {e : TypeId} {cap : Nat} {xs : List Value} (h : w.ownsRow B e 1 (.slice (some ⟨b, 0, none⟩) n cap) n xs) (hx : ∀ i, i < n → xs[i]? = some (V i)) : Rw w b n V := fun i hi => ⟨(h.cellAt i (by omega)).trans (hx i hi), h.frozenAt i⟩
end
theorem run_store_float (P : Program) (w : World) (a : Addr) (m : Mode) (k : FloatKind) (b : Nat) : (store a (.float k b) m).run P w = stored P w a (.float k b) m := run_store P w a _ m rfl
attribute [local go_sem] run_store_float
theorem Yba.info2 : (Yba.prog.info? 2).map (fun i => (i.zero, i.size, i.bytes)) = some (some (.int .i64 0), 1, 8) := by kernel_rfl
theorem Yba.info3 : (Yba.prog.info? 3).map (fun i => (i.zero, i.size, i.bytes)) = some (some (.int .i64 0), 1, 8) := by kernel_rfl
theorem made_get {z : Value} {n i : Nat} (h : i < n) : (madeCells #[z] n).toList[i]? = some z := by rw [toList_madeCells_one, List.getElem?_replicate, if_pos h]
theorem F_zero : F 0 = 0 := by decide

/-- Behind k rounds of the first loop: the values drawn so far. -/
def Xk (r : List Int) (k : Nat) (i : Nat) : Int := if i < k then r[i]?.getD 0 else 0
theorem Xk_set (r : List Int) (k : Nat) (i : Nat) : (if i = k then r[k]?.getD 0 else Xk r k i) = Xk r (k + 1) i := by
  unfold Xk
  by_cases e : i = k
  · subst e; rw [if_pos rfl, if_pos (by omega)]
  · rw [if_neg e]
    by_cases h : i < k
    · rw [if_pos h, if_pos (by omega)]
    · rw [if_neg h, if_neg (by omega)]

/-- The sender that the law draws at place i. -/
def sd (q : List Int) (m : Nat) (i : Nat) : Int := 1 + (q[i]?.getD 0) % (m : Int)
def Sk (q : List Int) (m k i : Nat) : Int := if i < k then sd q m i else 0
theorem Sk_set (q : List Int) (m k i : Nat) : (if i = k then sd q m k else Sk q m k i) = Sk q m (k + 1) i := by
  unfold Sk
  by_cases e : i = k
  · subst e; rw [if_pos rfl, if_pos (by omega)]
  · rw [if_neg e]
    by_cases h : i < k
    · rw [if_pos h, if_pos (by omega)]
    · rw [if_neg h, if_neg (by omega)]

theorem Xk_sm {r : List Int} (h : ∀ i : Nat, -2147483648 ≤ r[i]?.getD 0 ∧ r[i]?.getD 0 ≤ 2147483647) (l : Nat) (i : Nat) : Sm (Xk r l i) := by
  unfold Xk Sm
  have := h i
  split <;> omega
theorem sd_range {q : List Int} {m : Nat} (hm : 0 < m) (t : Nat) : 1 ≤ sd q m t ∧ sd q m t ≤ m := by
  unfold sd
  have h1 := Int.emod_nonneg (q[t]?.getD 0) (show (m : Int) ≠ 0 by omega)
  have h2 := Int.emod_lt_of_pos (q[t]?.getD 0) (show (0 : Int) < m by omega)
  omega

theorem past_drew {w : World} {o : Obj} {b k : Nat} (h : b < w.heap.size) : (w.alloc o).drew.cell? ⟨b, k, none⟩ = w.cell? ⟨b, k, none⟩ := World.cell?_alloc_past _ _ _ h
/-- What the partition leaves: the pivot stands at jt; none behind it ranks before it; those ahead of it are those that do, in the order they had once the pivot's slot was swapped with the last; all is a permutation. -/
def PartOk (f : Int → Int → Bool) (S T : List Int) (n jt pi : Nat) : Prop :=
  jt < n ∧ T[jt]?.getD 0 = S[pi]?.getD 0 ∧ (∀ i, jt < i → i < n → f (T[i]?.getD 0) (S[pi]?.getD 0) = false) ∧ T.take jt = ((swl S pi (n - 1)).take (n - 1)).filter (fun x => f x (S[pi]?.getD 0)) ∧ T.Perm S ∧ T.length = n ∧ pi < n
theorem part_ok {X : Nat → Int} {v : Int} {S D : List Int} {n jt pi : Nat} (hS : S.length = n) (hn0 : 1 ≤ n) (h : Lom (fun x => bf X v x (S[pi]?.getD 0)) (swl S pi (n - 1)) (n - 1) jt D) (hpi : pi < n) :
    PartOk (bf X v) S (swl D jt (n - 1)) n jt pi := by
  obtain ⟨h1, h2, h3, h4, h5⟩ := h
  have hD : D.length = n := by rw [h5.length_eq, swl_length, hS]
  have hL : D[n - 1]?.getD 0 = S[pi]?.getD 0 := by
    rw [h4 (n - 1) (Nat.le_refl _), swl_get (by omega) (by omega), if_pos rfl]
  refine ⟨by omega, ?_, ?_, ?_, (swl_perm (by omega) (by omega)).trans (h5.trans (swl_perm (by omega) (by omega))), by rw [swl_length, hD], hpi⟩
  · rw [swl_get (by omega) (by omega)]
    by_cases e : n - 1 = jt
    · rw [if_pos e, ← e, hL]
    · rw [if_neg e, if_pos rfl, hL]
  · intro i hi hin
    rw [swl_get (by omega) (by omega)]
    by_cases e : n - 1 = i
    · rw [if_pos e]
      exact h3 jt (Nat.le_refl _) (by omega)
    · rw [if_neg e, if_neg (by omega)]
      exact h3 i (by omega) (by omega)
  · rw [← h2]
    apply ext_getD
    · simp [swl_length]
    · intro t ht
      have ht' : t < jt := by simp at ht; omega
      rw [getD_take ht', getD_take ht', swl_get (by omega) (by omega), if_neg (by omega), if_neg (by omega)]

/-- The three rows that the law's second half reads; old memory as it was. -/
def Ctx (w : World) (vb ib ob sb m n : Nat) (X : Nat → Int) (S T : List Int) (wx : World) : Prop :=
  Rw wx sb n (fun i => .int .i64 (T[i]?.getD 0)) ∧ Rw wx ib m (fun i => .int .i64 (X i)) ∧ Rw wx ob n (fun i => .int .i64 (S[i]?.getD 0)) ∧ Below vb w wx
section
variable {w wx wy : World} {vb ib ob sb m n : Nat} {X : Nat → Int} {S T : List Int}
theorem Ctx.below (h : Ctx w vb ib ob sb m n X S T wx) (hv : vb ≤ wx.heap.size) (hb : Below wx.heap.size wx wy) : Ctx w vb ib ob sb m n X S T wy :=
  ⟨h.1.below hb, h.2.1.below hb, h.2.2.1.below hb, h.2.2.2.trans (hb.mono hv)⟩
theorem Ctx.set (h : Ctx w vb ib ob sb m n X S T wx) {b : Nat} (h1 : b ≠ sb) (h2 : b ≠ ib) (h3 : b ≠ ob) (hv : vb ≤ b) (k : Nat) (u : Value) : Ctx w vb ib ob sb m n X S T (wx.setCell ⟨b, k, none⟩ u) :=
  ⟨h.1.other h1.symm k u, h.2.1.other h2.symm k u, h.2.2.1.other h3.symm k u, h.2.2.2.setCell hv u⟩
theorem Ctx.grown (h : Ctx w vb ib ob sb m n X S T wx) {b : Nat} (h1 : b ≠ sb) (h2 : b ≠ ib) (h3 : b ≠ ob) (hv : vb ≤ wx.heap.size) (hb : vb ≤ b) (hg : wx.grownBy wy (some b)) : Ctx w vb ib ob sb m n X S T wy :=
  ⟨h.1.grown hg (by simpa using h1.symm), h.2.1.grown hg (by simpa using h2.symm), h.2.2.1.grown hg (by simpa using h3.symm), h.2.2.2.trans ((Below.refl _ _).grown hg hv (fun k hk => by cases hk; exact hb))⟩
end
/-- Three cells of the call's own. -/
def T3 (w : World) (tb : Nat) (t : Int × Int × Int) : Prop :=
  (w.cell? ⟨tb, 0, none⟩ = some (.int .i64 t.1) ∧ w.cell? ⟨tb, 1, none⟩ = some (.int .i64 t.2.1) ∧ w.cell? ⟨tb, 2, none⟩ = some (.int .i64 t.2.2)) ∧
  w.frozen? ⟨tb, 0, none⟩ = false ∧ w.frozen? ⟨tb, 1, none⟩ = false ∧ w.frozen? ⟨tb, 2, none⟩ = false
def In3 (m : Nat) (t : Int × Int × Int) : Prop := (1 ≤ t.1 ∧ t.1 ≤ m) ∧ (1 ≤ t.2.1 ∧ t.2.1 ≤ m) ∧ (1 ≤ t.2.2 ∧ t.2.2 ≤ m)
def bA (f : Int → Int → Bool) (t : Int × Int × Int) : Int × Int × Int := if f t.2.1 t.1 then (t.2.1, t.1, t.2.2) else t
def bB (f : Int → Int → Bool) (t : Int × Int × Int) : Int × Int × Int := if f t.2.2 t.2.1 then (t.1, t.2.2, t.2.1) else t
theorem In3.bA {m : Nat} {t : Int × Int × Int} (h : In3 m t) (f : Int → Int → Bool) : In3 m (bA f t) := by
  unfold A.bA; split
  · exact ⟨h.2.1, h.1, h.2.2⟩
  · exact h
theorem In3.bB {m : Nat} {t : Int × Int × Int} (h : In3 m t) (f : Int → Int → Bool) : In3 m (bB f t) := by
  unfold A.bB; split
  · exact ⟨h.1, h.2.2, h.2.1⟩
  · exact h
/-- The bubble's inner states behind j steps .. -/
def bi (f : Int → Int → Bool) (t : Int × Int × Int) : Nat → Int × Int × Int
  | 0 => t
  | 1 => bA f t
  | _ => bB f (bA f t)
/-- .. and its outer ones behind k rounds. -/
def bo (f : Int → Int → Bool) (t : Int × Int × Int) : Nat → Int × Int × Int
  | 0 => t
  | 1 => bi f t 2
  | _ => bi f (bi f t 2) 1
theorem in3_bi {m : Nat} {f : Int → Int → Bool} {t : Int × Int × Int} (h : In3 m t) : ∀ j, In3 m (bi f t j)
  | 0 => h
  | 1 => h.bA f
  | _ + 2 => (h.bA f).bB f
theorem in3_bo {m : Nat} {f : Int → Int → Bool} {t : Int × Int × Int} (h : In3 m t) : ∀ k, In3 m (bo f t k)
  | 0 => h
  | 1 => in3_bi h 2
  | _ + 2 => in3_bi (in3_bi h 2) 1
theorem T3.below {w w' : World} {tb : Nat} {t : Int × Int × Int} (h : T3 w tb t) (hb : Below w.heap.size w w') : T3 w' tb t := by
  have hlt := World.block_lt_of_cell? _ _ h.1.1
  exact ⟨⟨below_cell hb hlt h.1.1, below_cell hb hlt h.1.2.1, below_cell hb hlt h.1.2.2⟩, (hb.frozen (p := ⟨tb, 0, none⟩) hlt).trans h.2.1, (hb.frozen (p := ⟨tb, 1, none⟩) hlt).trans h.2.2.1, (hb.frozen (p := ⟨tb, 2, none⟩) hlt).trans h.2.2.2⟩

theorem less_ctx {w wx : World} {vb ib ob sb m n : Nat} {X : Nat → Int} {S T : List Int} {v a b : Int} (h : Ctx w vb ib ob sb m n X S T wx) (hX : ∀ i, Sm (X i)) (hv : Sm v) (hm : m ≤ 65537) (ha : 1 ≤ a ∧ a ≤ m) (hb : 1 ≤ b ∧ b ≤ m) :
    Calls Yba.prog 10 #[.slice (some ⟨ib, 0, none⟩) m m, .int .i64 v, .int .i64 a, .int .i64 b] wx fun e w' => e = .returned (.bool (bf X v a b)) ∧ w' = wx :=
  less_any ib m _ _ v a b wx ha.1 ha.2 hb.1 hb.2 hm (hX _) (hX _) hv (h.2.1 _ (by omega)).1 (h.2.1 _ (by omega)).1
theorem less_dec {w wx : World} {vb ib ob sb m n : Nat} {X : Nat → Int} {S T : List Int} {v a b : Int} {c : Bool} (hc : bf X v a b = c) (h : Ctx w vb ib ob sb m n X S T wx) (hX : ∀ i, Sm (X i)) (hv : Sm v) (hm : m ≤ 65537) (ha : 1 ≤ a ∧ a ≤ m) (hb : 1 ≤ b ∧ b ≤ m) :
    Calls Yba.prog 10 #[.slice (some ⟨ib, 0, none⟩) m m, .int .i64 v, .int .i64 a, .int .i64 b] wx fun e w' => e = .returned (.bool c) ∧ w' = wx := by
  rw [← hc]; exact less_ctx h hX hv hm ha hb
theorem Ctx.drewN {w wx : World} {vb ib ob sb m n : Nat} {X : Nat → Int} {S T : List Int} (h : Ctx w vb ib ob sb m n X S T wx) (q : Nat) : Ctx w vb ib ob sb m n X S T (wx.drewN q) := ⟨h.1, h.2.1, h.2.2.1, below_drewN h.2.2.2 q⟩
theorem T3.drewN {w : World} {tb : Nat} {t : Int × Int × Int} (h : T3 w tb t) (q : Nat) : T3 (w.drewN q) tb t := h
theorem T3.other {w : World} {tb : Nat} {t : Int × Int × Int} (h : T3 w tb t) {b : Nat} (hb : b ≠ tb) (k : Nat) (u : Value) : T3 (w.setCell ⟨b, k, none⟩ u) tb t := by
  have hne : ∀ o : Nat, (⟨b, k, none⟩ : Addr) ≠ ⟨tb, o, none⟩ := fun o e => hb (by injection e)
  exact ⟨⟨(World.cell?_setCell_other w _ _ _ (hne 0)).trans h.1.1, (World.cell?_setCell_other w _ _ _ (hne 1)).trans h.1.2.1, (World.cell?_setCell_other w _ _ _ (hne 2)).trans h.1.2.2⟩, (World.frozen?_setCell w _ _ _).trans h.2.1, (World.frozen?_setCell w _ _ _).trans h.2.2.1, (World.frozen?_setCell w _ _ _).trans h.2.2.2⟩
theorem T3.sw0 {w : World} {tb : Nat} {a b c : Int} (h : T3 w tb (a, b, c)) : T3 ((w.setCell ⟨tb, 0, none⟩ (.int .i64 b)).setCell ⟨tb, 1, none⟩ (.int .i64 a)) tb (b, a, c) := by
  obtain ⟨⟨h0, h1, h2⟩, f0, f1, f2⟩ := h
  have n01 : (⟨tb, 1, none⟩ : Addr) ≠ ⟨tb, 0, none⟩ := by intro e; injection e with _ e; omega
  have n12 : (⟨tb, 1, none⟩ : Addr) ≠ ⟨tb, 2, none⟩ := by intro e; injection e with _ e; omega
  have n02 : (⟨tb, 0, none⟩ : Addr) ≠ ⟨tb, 2, none⟩ := by intro e; injection e with _ e; omega
  have n10 : (⟨tb, 0, none⟩ : Addr) ≠ ⟨tb, 1, none⟩ := by intro e; injection e with _ e; omega
  refine ⟨⟨?_, ?_, ?_⟩, by simp [f0], by simp [f1], by simp [f2]⟩
  · rw [World.cell?_setCell_other _ _ _ _ n01]; exact World.cell?_setCell_same w _ _ h0
  · exact World.cell?_setCell_same _ _ _ ((World.cell?_setCell_other _ _ _ _ n10).trans h1)
  · rw [World.cell?_setCell_other _ _ _ _ n12, World.cell?_setCell_other _ _ _ _ n02]; exact h2
theorem T3.sw1 {w : World} {tb : Nat} {a b c : Int} (h : T3 w tb (a, b, c)) : T3 ((w.setCell ⟨tb, 1, none⟩ (.int .i64 c)).setCell ⟨tb, 2, none⟩ (.int .i64 b)) tb (a, c, b) := by
  obtain ⟨⟨h0, h1, h2⟩, f0, f1, f2⟩ := h
  have n20 : (⟨tb, 2, none⟩ : Addr) ≠ ⟨tb, 0, none⟩ := by intro e; injection e with _ e; omega
  have n10 : (⟨tb, 1, none⟩ : Addr) ≠ ⟨tb, 0, none⟩ := by intro e; injection e with _ e; omega
  have n21 : (⟨tb, 2, none⟩ : Addr) ≠ ⟨tb, 1, none⟩ := by intro e; injection e with _ e; omega
  have n12 : (⟨tb, 1, none⟩ : Addr) ≠ ⟨tb, 2, none⟩ := by intro e; injection e with _ e; omega
  refine ⟨⟨?_, ?_, ?_⟩, by simp [f0], by simp [f1], by simp [f2]⟩
  · rw [World.cell?_setCell_other _ _ _ _ n20, World.cell?_setCell_other _ _ _ _ n10]; exact h0
  · rw [World.cell?_setCell_other _ _ _ _ n21]; exact World.cell?_setCell_same w _ _ h1
  · exact World.cell?_setCell_same _ _ _ ((World.cell?_setCell_other _ _ _ _ n12).trans h2)

theorem perm_all {T S : List Int} {n : Nat} {P : Int → Prop} (h : T.Perm S) (hT : T.length = n) (hS : S.length = n) (hP : ∀ t, t < n → P (S[t]?.getD 0)) : ∀ t, t < n → P (T[t]?.getD 0) := by
  intro t ht
  have hm : T[t]?.getD 0 ∈ S := by
    rw [← h.mem_iff, List.getElem?_eq_getElem (by omega)]
    exact List.getElem_mem _
  obtain ⟨i, hi, e⟩ := List.getElem_of_mem hm
  have := hP i (by omega)
  rw [List.getElem?_eq_getElem hi] at this
  rw [← e]
  exact this
/-- The three places that the law looks at. -/
def ix3 (qa qb qc : Nat) (i : Nat) : Nat := if i = 0 then qa else if i = 1 then qb else qc
theorem pIdx_mem {f : Nat → Nat → Bool} {n qa qb qc : Nat} (ha : qa = n / 4) (hb : qb = n / 2) (hc : qc = 3 * n / 4) : ∃ ks, ks ≤ 2 ∧ ix3 qa qb qc ks = pIdx f n := by
  unfold pIdx med2 med1
  rw [← ha, ← hb, ← hc]
  split <;> (try split) <;> (try split)
  all_goals first
    | exact ⟨0, by omega, rfl⟩
    | exact ⟨1, by omega, rfl⟩
    | exact ⟨2, by omega, rfl⟩
theorem ix_cell {w : World} {xb qa qb qc k n : Nat} (h : T3 w xb ((qa : Int), (qb : Int), (qc : Int))) (hk : k ≤ 2) (ha : qa < n) (hb : qb < n) (hc : qc < n) : ∃ jx : Nat, jx = ix3 qa qb qc k ∧ jx < n ∧ w.cell? ⟨xb, k, none⟩ = some (.int .i64 jx) := by
  rcases (show k = 0 ∨ k = 1 ∨ k = 2 by omega) with rfl | rfl | rfl
  · exact ⟨qa, rfl, ha, h.1.1⟩
  · exact ⟨qb, rfl, hb, h.1.2.1⟩
  · exact ⟨qc, rfl, hc, h.1.2.2⟩
theorem Rw.swl {w : World} {g n : Nat} {S : List Int} {i j : Nat} (h : Rw w g n (fun t => .int .i64 (S[t]?.getD 0))) (hS : S.length = n) (hi : i < n) (hj : j < n) :
    Rw ((w.setCell ⟨g, i, none⟩ (.int .i64 (S[j]?.getD 0))).setCell ⟨g, j, none⟩ (.int .i64 (S[i]?.getD 0))) g n (fun t => .int .i64 ((A.swl S i j)[t]?.getD 0)) := by
  refine ((h.set i hi _).set j hj _).congr ?_
  intro t ht
  rw [swl_get (by omega) (by omega)]
  by_cases e1 : t = j
  · rw [if_pos e1, if_pos e1.symm]
  · rw [if_neg e1, if_neg (Ne.symm e1)]
    by_cases e2 : t = i
    · rw [if_pos e2, if_pos e2.symm]
    · rw [if_neg e2, if_neg (Ne.symm e2)]
theorem T3.grown {w w' : World} {tb b : Nat} {t : Int × Int × Int} (h : T3 w tb t) (hg : w.grownBy w' (some b)) (hb : tb ≠ b) : T3 w' tb t := by
  have hlt := World.block_lt_of_cell? _ _ h.1.1
  have hbl : ∀ o : Nat, w'.cell? ⟨tb, o, none⟩ = w.cell? ⟨tb, o, none⟩ := fun o => World.cell?_of_block (hg.block tb hlt (by simpa using hb))
  have hfr : ∀ o : Nat, w'.frozen? ⟨tb, o, none⟩ = w.frozen? ⟨tb, o, none⟩ := fun o => World.frozen?_of_block (hg.block tb hlt (by simpa using hb))
  exact ⟨⟨(hbl 0).trans h.1.1, (hbl 1).trans h.1.2.1, (hbl 2).trans h.1.2.2⟩, (hfr 0).trans h.2.1, (hfr 1).trans h.2.2.1, (hfr 2).trans h.2.2.2⟩
theorem filter_no {f : Int → Bool} {l : List Int} {k : Nat} (hk : k < l.length) (h : f (l[k]?.getD 0) = false) : (l.take (k + 1)).filter f = (l.take k).filter f := by
  rw [List.getElem?_eq_getElem hk] at h
  have h' : f l[k] = false := h
  rw [List.take_succ_eq_append_getElem hk, List.filter_append]
  simp [h']
theorem filter_yes {f : Int → Bool} {l : List Int} {k : Nat} (hk : k < l.length) (h : f (l[k]?.getD 0) = true) : (l.take (k + 1)).filter f = (l.take k).filter f ++ [l[k]?.getD 0] := by
  rw [List.getElem?_eq_getElem hk] at h ⊢
  have h' : f l[k] = true := h
  rw [List.take_succ_eq_append_getElem hk, List.filter_append]
  simp [h']
theorem bang_getD (zs : List Int) (j : Nat) : zs.toArray[j]! = zs[j]?.getD 0 := by
  by_cases h : j < zs.length
  · simp [h]
  · simp [h]
theorem holds_rw {w : World} {g : Nat} {zs : List Int} : Sort.Holds (Value.int .i64) w g 0 zs.toArray ↔ Rw w g zs.length (fun i => .int .i64 (zs[i]?.getD 0)) := by
  constructor
  · intro h i hi
    have := h i (by simpa using hi)
    rw [Nat.zero_add, bang_getD] at this
    exact this
  · intro h i hi
    rw [Nat.zero_add, bang_getD]
    exact h i (by simpa using hi)
/-- slices.Sort of a row of the call's own. -/
theorem sort_any (g n cap : Nat) (zs : List Int) (w : World) (hn0 : 1 ≤ n) (hn : n ≤ 65536) (hz : zs.length = n) (h : Rw w g n (fun i => .int .i64 (zs[i]?.getD 0))) :
    Calls Yba.prog 12 #[.slice (some ⟨g, 0, none⟩) n cap] w fun e w' => e = .returned (.tuple #[]) ∧ Rw w' g n (fun i => .int .i64 ((zs.mergeSort fun x y => decide (x ≤ y))[i]?.getD 0)) ∧ w.grownBy w' (some g) := by
  have hlt := h.lt hn0
  have hH : Sort.Holds (Value.int .i64) w g 0 zs.toArray := holds_rw.2 (by rw [hz]; exact h)
  have hs := Yba.slices_Sort_int g 0 cap zs w hH hlt (by omega)
  rw [hz] at hs
  refine hs.mono ?_
  rintro e w' ⟨rfl, q, os, rfl⟩
  refine ⟨rfl, ?_, grownBy_sortedI _⟩
  have hl : (zs.mergeSort fun x y => decide (x ≤ y)).length = n := by rw [List.length_mergeSort, hz]
  have := holds_rw.1 (Sort.holds_grow (Value.int .i64) _ os g 0 _ (by simpa using hlt) (Sort.holds_putRow (Value.int .i64) (Sort.ahead w q) g 0 zs.toArray (zs.mergeSort fun x y => decide (x ≤ y)).toArray hH (by simp)))
  rw [hl] at this
  exact this
theorem merge_perm {a b : List Int} (h : a.Perm b) : (a.mergeSort fun x y => decide (x ≤ y)) = b.mergeSort fun x y => decide (x ≤ y) := by
  have ht : ∀ x y z : Int, decide (x ≤ y) = true → decide (y ≤ z) = true → decide (x ≤ z) = true := by intro x y z; simp; omega
  have hto : ∀ x y : Int, (decide (x ≤ y) || decide (y ≤ x)) = true := by intro x y; simp; omega
  have s1 := List.pairwise_mergeSort ht hto a
  have s2 := List.pairwise_mergeSort ht hto b
  have p : (a.mergeSort fun x y => decide (x ≤ y)).Perm (b.mergeSort fun x y => decide (x ≤ y)) := (List.mergeSort_perm a _).trans (h.trans (List.mergeSort_perm b _).symm)
  exact p.eq_of_pairwise (le := fun x y => decide (x ≤ y) = true) (fun x y _ _ h1 h2 => by simp at h1 h2; omega) s1 s2
theorem bf_asymm {X : Nat → Int} {v a b : Int} (h : bf X v a b = true) : bf X v b a = false := by
  unfold bf before at h ⊢
  simp at h ⊢
  omega
/-- The median by the bubble is the median that the partition takes. -/
theorem med_same {X : Nat → Int} {v : Int} {S : List Int} {n qa qb qc : Nat} (ha : qa = n / 4) (hb : qb = n / 2) (hc : qc = 3 * n / 4) :
    (bo (bf X v) (S[qa]?.getD 0, S[qb]?.getD 0, S[qc]?.getD 0) 2).2.1 = S[pIdx (fS X v S) n]?.getD 0 := by
  subst ha hb hc
  unfold pIdx
  generalize n / 4 = a
  generalize n / 2 = b
  generalize 3 * n / 4 = c
  show (bA (bf X v) (bB (bf X v) (bA (bf X v) (S[a]?.getD 0, S[b]?.getD 0, S[c]?.getD 0)))).2.1 = S[med2 (fS X v S) (med1 (fS X v S) a b).1 (med1 (fS X v S) a b).2 c]?.getD 0
  have key : ∀ i j : Nat, bf X v (S[j]?.getD 0) (S[i]?.getD 0) = false → (bA (bf X v) (bB (bf X v) (S[i]?.getD 0, S[j]?.getD 0, S[c]?.getD 0))).2.1 = S[med2 (fS X v S) i j c]?.getD 0 := by
    intro i j hij
    unfold bB
    dsimp only
    cases h1 : bf X v (S[c]?.getD 0) (S[j]?.getD 0) with
    | false =>
      rw [if_neg (by decide), med2_no h1, bA, if_neg (by rw [hij]; decide)]
    | true =>
      rw [if_pos rfl]
      unfold bA
      dsimp only
      cases h2 : bf X v (S[c]?.getD 0) (S[i]?.getD 0) with
      | false => rw [if_neg (by decide), med2_c h1 h2]
      | true => rw [if_pos rfl, med2_a h1 h2]
  cases h : bf X v (S[b]?.getD 0) (S[a]?.getD 0) with
  | true =>
    rw [med1_yes h]
    have e : bA (bf X v) (S[a]?.getD 0, S[b]?.getD 0, S[c]?.getD 0) = (S[b]?.getD 0, S[a]?.getD 0, S[c]?.getD 0) := if_pos h
    rw [e]
    exact key b a (bf_asymm h)
  | false =>
    rw [med1_no h]
    have e : bA (bf X v) (S[a]?.getD 0, S[b]?.getD 0, S[c]?.getD 0) = (S[a]?.getD 0, S[b]?.getD 0, S[c]?.getD 0) := if_neg (by show ¬ bf X v (S[b]?.getD 0) (S[a]?.getD 0) = true; rw [h]; decide)
    rw [e]
    exact key a b h

set_option maxRecDepth 100000 in
set_option maxHeartbeats 2000000 in
theorem law_walk (a0 : Option Addr) (l0 c0 b2 o2 n c2 : Nat) (r : List Int) (q : List Int) (ow : Int) (w : World) (hl0 : l0 ≤ 65536) (hn0 : 1 ≤ n) (hn : n ≤ 65536)
    (hr : 0 < l0 → ∃ b o, a0 = some ⟨b, o, none⟩ ∧ ∀ i, i < l0 → w.cell? ⟨b, o + i, none⟩ = some (.int .i32 (r[i]?.getD 0)))
    (hq : ∀ i, i < n → w.cell? ⟨b2, o2 + i, none⟩ = some (.int .u16 (q[i]?.getD 0)))
    (hrb : ∀ i : Nat, -2147483648 ≤ r[i]?.getD 0 ∧ r[i]?.getD 0 ≤ 2147483647) (hqb : ∀ i : Nat, 0 ≤ q[i]?.getD 0 ∧ q[i]?.getD 0 ≤ 65535) (how : -2147483648 ≤ ow ∧ ow ≤ 2147483647) :
    Calls Yba.prog 3 #[.slice a0 l0 c0, .int .i32 ow, .slice (some ⟨b2, o2, none⟩) n c2] w fun e w' => e = .returned (.bool true) ∧ Below w.heap.size w w' := by
  obtain ⟨i26, hi26, hz0, hz1, hz2⟩ := info_parts Yba.info26
  obtain ⟨i2, hi2, hy0, hy1, hy2⟩ := info_parts Yba.info2
  obtain ⟨i3, hi3, hx0, hx1, hx2⟩ := info_parts Yba.info3
  have hn0' : ((n : Int) == 0) = false := by rw [beq_eq_false_iff_ne]; omega
  have hl0' : (l0 : Int) ≤ 65536 := by omega
  have hn' : (n : Int) ≤ 65536 := by omega
  have Hr := hide hr
  have Hq := hide hq
  have Hrb := hide hrb
  have Hqb := hide hqb
  clear hr hq hrb hqb
  go_enter Yba.func3, Yba.ntmps3
  go_wp2_with (at_make; refine wpList_make_full _ rfl (.tmp 52) (.tmp 52) 24 rfl w.heap.size 26 i26 (.float .f64 0) 1 Yba.underlying24 hi26 hz0 hz1 _ _ _ _ (l0 + 1) rfl rfl (by omega) (by omega) ?b2 ?b3 (Nat.le_refl _) ?_)
  case b2 => rw [hz2]; omega
  case b3 => unfold maxLen; omega
  intro w1 hown1 hgrow1
  have hb1 : Below w.heap.size w w1 := (Below.refl _ _).grown hgrow1 (Nat.le_refl _) (fun k h => by cases h)
  have hvb := (hown1.lt _ rfl).2
  have R1 : Rw w1 w.heap.size (l0 + 1) (fun i => .float .f64 (F (Xk r 0 i))) := Rw.of_own hown1 (fun i hi => by
    rw [show Xk r 0 i = 0 from if_neg (by omega), F_zero]; exact made_get hi)
  have HR1 := hide R1
  have HB1 := hide hb1
  clear hown1 hgrow1 R1 hb1
  go_wp2_with (at_make; refine wpList_make_full _ rfl (.tmp 54) (.tmp 54) 25 rfl w1.heap.size 2 i2 (.int .i64 0) 1 Yba.underlying25 hi2 hy0 hy1 _ _ _ _ (l0 + 1) rfl rfl (by omega) (by omega) ?b2 ?b3 (Nat.le_refl _) ?_)
  case b2 => (try rw [hy2]); omega
  case b3 => unfold maxLen; omega
  intro w2 hown2 hgrow2
  have hb2 : Below w1.heap.size w1 w2 := (Below.refl _ _).grown hgrow2 (Nat.le_refl _) (fun k h => by cases h)
  have R2 : Rw w2 w1.heap.size (l0 + 1) (fun i => .int .i64 (Xk r 0 i)) := Rw.of_own hown2 (fun i hi => by
    rw [show Xk r 0 i = 0 from if_neg (by omega)]; exact made_get hi)
  have HR2 := hide R2
  have HR1' := hide ((unhide HR1).below hb2)
  have HB2 := hide ((unhide HB1).trans (hb2.mono (unhide HB1).size))
  clear hown2 hgrow2 R2 hb2 HR1
  go_upto_block 0 with fail
  go_cut [] (fun wx => Hid (Rw wx w.heap.size (l0 + 1) (fun i => .float .f64 (F (Xk r l0 i)))) ∧ Hid (Rw wx w1.heap.size (l0 + 1) (fun i => .int .i64 (Xk r l0 i))) ∧ Hid (Below w.heap.size w wx))
  case first =>
    go_wp2_with fail
    go_loopw [58] (fun i wr => ∃ k : Nat, i = .int .i64 k ∧ k ≤ l0 ∧ Hid (Rw wr w.heap.size (l0 + 1) (fun i => .float .f64 (F (Xk r k i)))) ∧ Hid (Rw wr w1.heap.size (l0 + 1) (fun i => .int .i64 (Xk r k i))) ∧ Hid (Below w.heap.size w wr)) (fun i _ => l0 - (intOf i).toNat)
    case atStart => exact ⟨0, rfl, Nat.zero_le _, HR1', HR2, HB2⟩
    case round =>
      obtain ⟨k, rfl, hk, Q1, Q2, QB⟩ := hrel
      clear HR1' HR2 HB2
      by_cases hlt : k < l0
      · obtain ⟨b, o, rfl, hcell⟩ := unhide Hr (by omega)
        have ck := (below_cell (unhide QB) (World.block_lt_of_cell? _ _ (hcell k hlt)) (hcell k hlt))
        obtain ⟨rb1, rb2⟩ := unhide Hrb k
        have hkl : (k : Int) < l0 := by omega
        have q1 := (unhide Q1) k (by omega)
        have q2 := (unhide Q2) k (by omega)
        obtain ⟨q11, q12⟩ := q1
        obtain ⟨q21, q22⟩ := q2
        have q3 := ((unhide Q2).other (show w1.heap.size ≠ w.heap.size by omega) k (.float .f64 (F (r[k]?.getD 0)))) k (by omega)
        obtain ⟨q31, q32⟩ := q3
        have hF : floatOfInt .f64 (r[k]?.getD 0) = F (r[k]?.getD 0) := rfl
        clear hcell
        go_wp2
        go_roundw
        case rel =>
          refine ⟨k + 1, by go_num, by omega, ?_, ?_, ?_⟩
          · exact (((unhide Q1).set k (by omega) (.float .f64 (F (r[k]?.getD 0)))).other (show w.heap.size ≠ w1.heap.size by omega) k _).congr (fun i _ => by rw [← Xk_set]; split <;> rfl)
          · exact (((unhide Q2).other (show w1.heap.size ≠ w.heap.size by omega) k _).set k (by omega) _).congr (fun i _ => by rw [← Xk_set]; split <;> rfl)
          · exact ((unhide QB).setCell (Nat.le_refl _) _).setCell (by show w.heap.size ≤ w1.heap.size; omega) _
        case measure => simp [intOf]; omega
      · obtain rfl : k = l0 := by omega
        go_wp2
        go_meet
        case rel => exact ⟨Q1, Q2, QB⟩
  case rest =>
    obtain ⟨wA, rfl⟩ : ∃ wo : World, wo = wc := ⟨_, rfl⟩
    obtain ⟨Q1, Q2, QB⟩ := hcut
    clear HR1' HR2 HB2
    have hvb1 : w1.heap.size < wA.heap.size := (unhide Q2).lt (by omega)
    have hFo : floatOfInt .f64 ow = F ow := rfl
    go_wp2_with (at_make; refine wpList_make_full _ rfl (.tmp 80) (.tmp 80) 27 rfl wA.heap.size 3 i3 (.int .i64 0) 1 Yba.underlying27 hi3 hx0 hx1 _ _ _ _ n rfl rfl (by omega) (by omega) ?b2 ?b3 (Nat.le_refl _) ?_)
    case b2 => (try rw [hx2]); omega
    case b3 => unfold maxLen; omega
    intro w3 hown3 hgrow3
    have hb3 : Below wA.heap.size wA w3 := (Below.refl _ _).grown hgrow3 (Nat.le_refl _) (fun k h => by cases h)
    have hob := (hown3.lt _ rfl).2
    have HR3 : Hid (Rw w3 wA.heap.size n (fun i => .int .i64 (Sk q (l0 + 1) 0 i))) := Rw.of_own hown3 (fun i hi => by
      rw [show Sk q (l0 + 1) 0 i = 0 from if_neg (by omega)]; exact made_get hi)
    have P1 := hide ((unhide Q1).below hb3)
    have P2 := hide ((unhide Q2).below hb3)
    have PB := hide ((unhide QB).trans (hb3.mono (unhide QB).size))
    clear hown3 hgrow3 hb3 Q1 Q2 QB
    go_upto_block 2 with fail
    go_cut [] (fun wx => Hid (Rw wx wA.heap.size n (fun i => .int .i64 (sd q (l0 + 1) i))) ∧ Hid (Rw wx w.heap.size (l0 + 1) (fun i => .float .f64 (F (Xk r l0 i)))) ∧ Hid (Rw wx w1.heap.size (l0 + 1) (fun i => .int .i64 (Xk r l0 i))) ∧ Hid (Below w.heap.size w wx))
    case first =>
      go_wp2_with fail
      go_loopw [84] (fun i wr => ∃ k : Nat, i = .int .i64 k ∧ k ≤ n ∧ Hid (Rw wr wA.heap.size n (fun i => .int .i64 (Sk q (l0 + 1) k i))) ∧ Hid (Rw wr w.heap.size (l0 + 1) (fun i => .float .f64 (F (Xk r l0 i)))) ∧ Hid (Rw wr w1.heap.size (l0 + 1) (fun i => .int .i64 (Xk r l0 i))) ∧ Hid (Below w.heap.size w wr)) (fun i _ => n - (intOf i).toNat)
      case atStart => exact ⟨0, rfl, Nat.zero_le _, HR3, P1, P2, PB⟩
      case round =>
        obtain ⟨k, rfl, hk, Q3, Q1, Q2, QB⟩ := hrel
        clear HR3 P1 P2 PB
        by_cases hlt : k < n
        · have hcq := unhide Hq k hlt
          have ck := below_cell (unhide QB) (World.block_lt_of_cell? _ _ hcq) hcq
          obtain ⟨qb1, qb2⟩ := unhide Hqb k
          have hkl : (k : Int) < n := by omega
          obtain ⟨q31, q32⟩ := unhide Q3 k hlt
          have m0 : 0 ≤ (q[k]?.getD 0) % ((l0 : Int) + 1) := Int.emod_nonneg _ (by omega)
          have m1 : (q[k]?.getD 0) % ((l0 : Int) + 1) ≤ l0 := by have := Int.emod_lt_of_pos (q[k]?.getD 0) (show 0 < (l0 : Int) + 1 by omega); omega
          clear hcq
          go_wp2
          go_roundw
          case rel =>
            refine ⟨k + 1, by go_num, by omega, ?_, ?_, ?_, ?_⟩
            · exact ((unhide Q3).set k hlt _).congr (fun i _ => by rw [← Sk_set]; unfold sd; split <;> first | rfl | simp)
            · exact (unhide Q1).other (by omega) k _
            · exact (unhide Q2).other (by omega) k _
            · exact (unhide QB).setCell (by show w.heap.size ≤ wA.heap.size; omega) _
          case measure => simp [intOf]; omega
        · obtain rfl : k = n := by omega
          go_wp2
          go_meet
          case rel => exact ⟨hide ((unhide Q3).congr (fun i hi => by rw [show Sk q (l0 + 1) k i = sd q (l0 + 1) i from if_pos hi])), Q1, Q2, QB⟩
    case rest =>
      obtain ⟨wB, rfl⟩ : ∃ wo : World, wo = wc := ⟨_, rfl⟩
      obtain ⟨Q3, Q1, Q2, QB⟩ := hcut
      clear HR3 P1 P2 PB
      have hob2 : wA.heap.size < wB.heap.size := (unhide Q3).lt (by omega)
      clear hob
      generalize hvbe : w.heap.size = vb at *
      generalize hibe : w1.heap.size = ib at *
      generalize hobe : wA.heap.size = ob at *
      generalize hm : l0 + 1 = m at *
      generalize hX : Xk r l0 = X at *
      have hm0 : 1 ≤ m := by omega
      have hm1 : m ≤ 65537 := by omega
      have HX : Hid (∀ i, Sm (X i)) := hide (by rw [← hX]; exact Xk_sm (unhide Hrb) l0)
      have hov : Sm ow := ⟨by omega, by omega⟩
      obtain ⟨S, hSdef⟩ : ∃ S, S = (List.range n).map (sd q m) := ⟨_, rfl⟩
      have HS : Hid (S.length = n) := hide (by rw [hSdef]; simp)
      have hSget : ∀ i, i < n → S[i]?.getD 0 = sd q m i := fun i hi => by rw [hSdef, List.getElem?_map, List.getElem?_range hi]; rfl
      have HSr : Hid (∀ t, t < n → 1 ≤ S[t]?.getD 0 ∧ S[t]?.getD 0 ≤ m) := hide (fun t ht => by rw [hSget t ht]; exact sd_range (by omega) t)
      have HOr := hide ((unhide Q3).congr (V' := fun i => .int .i64 (S[i]?.getD 0)) (fun i hi => by rw [hSget i hi]))
      have HVal : Hid (Vals X vb m wB) := hide (fun i hi => ((unhide Q1) i hi).1)
      have HIv := hide (unhide Q2)
      have HBel := hide (unhide QB)
      have Hve := hide hvbe
      clear Q3 Q1 Q2 QB hSget hSdef hX hibe hobe hvbe hm Hr Hq Hrb Hqb hFo
      go_wp2_with fail
      refine (Yba.slices_Clone_int ob 0 n n S _ (by rw [unhide HS]; exact Nat.le_refl _) (by omega) ?hc).mono ?_
      case hc => exact fun j hj => by rw [Nat.zero_add]; exact ((unhide HOr) j (by rw [← unhide HS]; exact hj)).1
      rintro e w4 ⟨v', rfl, hown4, hnn4, hb4⟩
      obtain ⟨sb, cap, hv4, hsb0, hsb1, hcapn⟩ : ∃ sb cap, v' = .slice (some ⟨sb, 0, none⟩) n cap ∧ wB.heap.size ≤ sb ∧ sb < w4.heap.size ∧ n ≤ cap := by
        rcases hown4.2 with ⟨e, _⟩ | ⟨g, cp, cur, e, hbase, hg, hnc, _⟩
        · exact absurd e hnn4
        · exact ⟨g, cp, e, hbase, (Array.getElem?_eq_some_iff.1 hg).1, hnc⟩
      rw [hv4] at hown4 ⊢
      rw [List.take_of_length_le (by rw [unhide HS]; exact Nat.le_refl _)] at hown4
      have HO4 := hide hown4
      have HV4 := hide ((unhide HVal).below hb4)
      have HI4 := hide ((unhide HIv).below hb4)
      have HR4 := hide ((unhide HOr).below hb4)
      have HB4 := hide ((unhide HBel).trans (hb4.mono (by rw [← unhide Hve]; rw [← unhide Hve] at HBel; exact (unhide HBel).size)))
      clear hown4 hnn4 hb4 hv4 HVal HIv HOr HBel
      go_wp2_with fail
      refine (cloneF_any vb m X _ hm0 hm1 (unhide HV4)).mono ?_
      rintro e w5 ⟨gb, gc, rfl, hgb, hG5, hb5⟩
      have hsb5 : w4.heap.size ≤ w5.heap.size := hb5.size
      have HO5 := hide ((unhide HO4).kept (below_grown hb5 none) (Or.inr (by simp [Value.ownBlock])))
      have HV5 := hide ((unhide HV4).below hb5)
      have HI5 := hide ((unhide HI4).below hb5)
      have HR5 := hide ((unhide HR4).below hb5)
      have HG5 := hide hG5
      have HB5 := hide ((unhide HB4).trans (hb5.mono (by rw [← unhide Hve]; rw [← unhide Hve] at HB4; exact (unhide HB4).size)))
      clear hb5 hG5 HO4 HV4 HI4 HR4 HB4
      go_wp2_with fail
      refine (partition_any vb m sb n cap wB.heap.size X ow S _ hm1 hn0 hn (unhide HS) (unhide HSr) (unhide HX) hov ?hv8 ?ho8 (by omega)).mono ?_
      case hv8 => exact (unhide HV5).below ((Below.refl _ _).alloc (Nat.le_refl _) _)
      case ho8 => exact (unhide HO5).alloc _
      rintro e w6 ⟨jt, D, rfl, hlom, hpi, hst⟩
      have hbn : ∀ {b k : Nat} {V : Nat → Value}, b ≠ sb → Rw w5 b k V → Rw w6 b k V := fun hb h => (h.below ((Below.refl _ _).alloc (Nat.le_refl _) _)).grown hst.2.2 (by simpa using hb)
      have HV6 : Hid (Vals X vb m w6) := hide (hst.vals (by omega) ((unhide HV5).below ((Below.refl _ _).alloc (Nat.le_refl _) _)))
      have HG6 : Hid (Vals X gb m w6) := hide (hst.vals (by omega) ((unhide HG5).below ((Below.refl _ _).alloc (Nat.le_refl _) _)))
      have HI6 := hide (hbn (show ib ≠ sb by omega) (unhide HI5))
      have HR6 := hide (hbn (show ob ≠ sb by omega) (unhide HR5))
      have hok := part_ok (unhide HS) hn0 hlom hpi
      obtain ⟨T, hT⟩ : ∃ T, T = swl D jt (n - 1) := ⟨_, rfl⟩
      rw [← hT] at hok hst
      have HW6 : Hid (Rw w6 sb n (fun i => .int .i64 (T[i]?.getD 0))) := hide (fun i hi => ⟨hst.cell hi, hst.frozen i⟩)
      have HOk := hide hok
      have hjt : jt < n := hok.1
      have hsz6 : w5.heap.size < w6.heap.size := by have := hst.2.2.size; simp at this; omega
      have hv5 : vb ≤ w5.heap.size := by omega
      have HB6 : Hid (Below vb w w6) := hide ((unhide HB5).trans (((Below.refl vb w5).alloc hv5 _).grown hst.2.2 (by simp; omega) (fun k hk => by cases hk; omega)))
      clear hbn HV5 HG5 HI5 HR5 HO5 HB5 hlom hst hT hok
      go_wp2_with fail
      refine (equalF_any vb gb m gc X _ hm1 (unhide HX) (unhide HV6) (unhide HG6)).mono ?_
      rintro e w7 ⟨rfl, hb7⟩
      have HW7 := hide ((unhide HW6).below hb7)
      have HI7 := hide ((unhide HI6).below hb7)
      have HR7 := hide ((unhide HR6).below hb7)
      have HB7 : Hid (Below vb w w7) := hide ((unhide HB6).trans (hb7.mono (by rw [← unhide Hve]; rw [← unhide Hve] at HB6; exact (unhide HB6).size)))
      have hsz7 : w6.heap.size ≤ w7.heap.size := hb7.size
      clear hb7 HW6 HI6 HR6 HB6 HV6 HG6
      obtain ⟨qa, hqa⟩ : ∃ qa : Nat, (n : Int) / 4 = qa := ⟨n / 4, by omega⟩
      obtain ⟨qb, hqb⟩ : ∃ qa : Nat, (n : Int) / 2 = qa := ⟨n / 2, by omega⟩
      obtain ⟨qc, hqc⟩ : ∃ qa : Nat, 3 * (n : Int) / 4 = qa := ⟨3 * n / 4, by omega⟩
      have Hqa : Hid (qa = n / 4) := hide (by omega)
      have Hqb : Hid (qb = n / 2) := hide (by omega)
      have Hqc : Hid (qc = 3 * n / 4) := hide (by omega)
      have ha : qa < n := by omega
      have hb : qb < n := by omega
      have hc : qc < n := by omega
      have ha' : (qa : Int) < n := by omega
      have hb' : (qb : Int) < n := by omega
      have hc' : (qc : Int) < n := by omega
      go_wp2_with fail
      have hc0 := hide (World.cell?_alloc_at (w := w7) #[.int .i64 qa, .int .i64 qb, .int .i64 qc] 35 w7.heap.size 0 rfl)
      have hc1 := hide (World.cell?_alloc_at (w := w7) #[.int .i64 qa, .int .i64 qb, .int .i64 qc] 35 w7.heap.size 1 rfl)
      have hc2 := hide (World.cell?_alloc_at (w := w7) #[.int .i64 qa, .int .i64 qb, .int .i64 qc] 35 w7.heap.size 2 rfl)
      have hf0 := hide (World.frozen?_alloc_at (w := w7) #[.int .i64 qa, .int .i64 qb, .int .i64 qc] 35 w7.heap.size 0 rfl)
      have hf1 := hide (World.frozen?_alloc_at (w := w7) #[.int .i64 qa, .int .i64 qb, .int .i64 qc] 35 w7.heap.size 1 rfl)
      have hf2 := hide (World.frozen?_alloc_at (w := w7) #[.int .i64 qa, .int .i64 qb, .int .i64 qc] 35 w7.heap.size 2 rfl)
      have hb8 : Below w7.heap.size w7 (w7.alloc (.cells #[.int .i64 qa, .int .i64 qb, .int .i64 qc] 35)) := (Below.refl _ _).alloc (Nat.le_refl _) _
      have HW8 := hide ((unhide HW7).below hb8)
      have HI8 := hide ((unhide HI7).below hb8)
      have HR8 := hide ((unhide HR7).below hb8)
      have hv7 : vb ≤ w7.heap.size := by omega
      have HB8 : Hid (Below vb w _) := hide ((unhide HB7).trans (hb8.mono hv7))
      have hsz8 : w7.heap.size < (w7.alloc (.cells #[.int .i64 qa, .int .i64 qb, .int .i64 qc] 35)).heap.size := by simp
      clear hb8 HW7 HI7 HR7 HB7
      generalize w7.alloc (.cells #[.int .i64 qa, .int .i64 qb, .int .i64 qc] 35) = w8 at *
      generalize hxb : w7.heap.size = xb at *
      clear hqa hqb hqc hxb
      have hxb8 : xb < w8.heap.size := hsz8
      have hob8 : ob < w8.heap.size := by omega
      go_region_held3 (fun w' => w'.cell? ⟨xb, 0, none⟩ = some (.int .i64 qa) ∧ w'.cell? ⟨xb, 1, none⟩ = some (.int .i64 qb) ∧ w'.cell? ⟨xb, 2, none⟩ = some (.int .i64 qc) ∧ w'.cell? ⟨ob, qa, none⟩ = some (.int .i64 (S[qa]?.getD 0)) ∧ w'.cell? ⟨ob, qb, none⟩ = some (.int .i64 (S[qb]?.getD 0)) ∧ w'.cell? ⟨ob, qc, none⟩ = some (.int .i64 (S[qc]?.getD 0)))
        (first | exact ⟨unhide hc0, unhide hc1, unhide hc2, (unhide HR8 qa ha).1, (unhide HR8 qb hb).1, (unhide HR8 qc hc).1⟩ | exact ⟨(past_drew hxb8).trans (unhide hc0), (past_drew hxb8).trans (unhide hc1), (past_drew hxb8).trans (unhide hc2), (past_drew hob8).trans (unhide HR8 qa ha).1, (past_drew hob8).trans (unhide HR8 qb hb).1, (past_drew hob8).trans (unhide HR8 qc hc).1⟩)
        (fail)
      have hb9 : Below w8.heap.size w8 (w8.alloc (.cells #[.int .i64 (S[qa]?.getD 0), .int .i64 (S[qb]?.getD 0), .int .i64 (S[qc]?.getD 0)] 35)).drew := ((Below.refl _ _).alloc (Nat.le_refl _) _).drew
      have HC9 : Hid (Ctx w vb ib ob sb m n X S T _) := hide (Ctx.below ⟨unhide HW8, unhide HI8, unhide HR8, unhide HB8⟩ (by omega) hb9)
      have HX9 : Hid (T3 _ xb ((qa : Int), (qb : Int), (qc : Int))) := hide (T3.below ⟨⟨unhide hc0, unhide hc1, unhide hc2⟩, unhide hf0, unhide hf1, unhide hf2⟩ hb9)
      have HT9 : Hid (T3 (w8.alloc (.cells #[.int .i64 (S[qa]?.getD 0), .int .i64 (S[qb]?.getD 0), .int .i64 (S[qc]?.getD 0)] 35)).drew w8.heap.size (S[qa]?.getD 0, S[qb]?.getD 0, S[qc]?.getD 0)) :=
        hide ⟨⟨World.cell?_alloc_at _ _ _ _ rfl, World.cell?_alloc_at _ _ _ _ rfl, World.cell?_alloc_at _ _ _ _ rfl⟩, World.frozen?_alloc_at _ _ _ _ rfl, World.frozen?_alloc_at _ _ _ _ rfl, World.frozen?_alloc_at _ _ _ _ rfl⟩
      have hsz9 : w8.heap.size < (w8.alloc (.cells #[.int .i64 (S[qa]?.getD 0), .int .i64 (S[qb]?.getD 0), .int .i64 (S[qc]?.getD 0)] 35)).drew.heap.size := by simp
      clear hb9 HW8 HI8 HR8 HB8 hc0 hc1 hc2 hf0 hf1 hf2
      generalize (w8.alloc (.cells #[.int .i64 (S[qa]?.getD 0), .int .i64 (S[qb]?.getD 0), .int .i64 (S[qc]?.getD 0)] 35)).drew = w9 at *
      obtain ⟨t0, ht0⟩ : ∃ t0 : Int × Int × Int, t0 = (S[qa]?.getD 0, S[qb]?.getD 0, S[qc]?.getD 0) := ⟨_, rfl⟩
      rw [← ht0] at HT9
      have Ht0 := hide ht0
      have HIn : Hid (∀ k, In3 m (bo (bf X ow) t0 k)) := hide (fun k => in3_bo (by rw [ht0]; exact ⟨unhide HSr qa ha, unhide HSr qb hb, unhide HSr qc hc⟩) k)
      clear ht0
      generalize htb : w8.heap.size = tb at *
      clear htb
      go_upto_block 4 with fail
      go_cut [] (fun wx => Hid (T3 wx tb (bo (bf X ow) t0 2)) ∧ Hid (T3 wx xb ((qa : Int), (qb : Int), (qc : Int))) ∧ Hid (Ctx w vb ib ob sb m n X S T wx) ∧ tb < wx.heap.size)
      case first =>
        go_wp2_with fail
        go_loopw [24] (fun k wr => ∃ k' : Nat, k = .int .i64 k' ∧ k' ≤ 2 ∧ Hid (T3 wr tb (bo (bf X ow) t0 k')) ∧ Hid (T3 wr xb ((qa : Int), (qb : Int), (qc : Int))) ∧ Hid (Ctx w vb ib ob sb m n X S T wr) ∧ tb < wr.heap.size) (fun k _ => 2 - (intOf k).toNat)
        case atStart => exact ⟨0, rfl, by omega, HT9, HX9, HC9, hsz9⟩
        case round =>
          obtain ⟨k', rfl, hk', R1, R2, R3, hszr⟩ := hrel
          clear HT9 HX9 HC9 hsz9
          by_cases hlt : k' < 2
          · have hkk : (k' : Int) < 2 := by omega
            go_wp2_with fail
            obtain ⟨wo, rfl⟩ : ∃ wo : World, wo = wr := ⟨_, rfl⟩
            go_loopw [25] (fun j wr => ∃ j' : Nat, j = .int .i64 j' ∧ j' + k' ≤ 2 ∧ Hid (T3 wr tb (bi (bf X ow) (bo (bf X ow) t0 k') j')) ∧ Hid (T3 wr xb ((qa : Int), (qb : Int), (qc : Int))) ∧ Hid (Ctx w vb ib ob sb m n X S T wr) ∧ tb < wr.heap.size) (fun j _ => 2 - (intOf j).toNat)
            case atStart => exact ⟨0, rfl, by omega, R1, R2, R3, hszr⟩
            case round =>
              obtain ⟨j', rfl, hj', Q1, Q2, Q3, hszq⟩ := hrel
              clear R1 R2 R3 hszr
              by_cases hjl : j' + k' < 2
              · have hjl' : (j' : Int) < 2 - (k' : Int) := by omega
                rcases (show j' = 0 ∨ j' = 1 by omega) with rfl | rfl
                · have hin := unhide HIn k'
                  obtain ⟨t1, ht1⟩ : ∃ t1, bo (bf X ow) t0 k' = t1 := ⟨_, rfl⟩
                  have Ht1 := hide ht1
                  rw [ht1] at hin
                  have P1 : Hid (T3 wr tb t1) := hide (by rw [← ht1]; exact unhide Q1)
                  clear ht1 Q1
                  obtain ⟨a, b, c⟩ := t1
                  obtain ⟨⟨c0, c1, c2⟩, f0, f1, f2⟩ := unhide P1
                  obtain ⟨ia, ib', ic⟩ := hin
                  have hdec : bf X ow b a = true ∨ bf X ow b a = false := by cases bf X ow b a <;> simp
                  dsimp only at c0 c1 c2 ia ib' ic
                  have hne1 : tb ≠ sb := by omega
                  have hne2 : tb ≠ ib := by omega
                  have hne3 : tb ≠ ob := by omega
                  have hne4 : tb ≠ xb := by omega
                  have hvt : vb ≤ tb := by omega
                  rcases hdec with hbf | hbf
                  · have Hbf := hide hbf
                    clear hbf
                    go_wp2
                    go_quiet ((go_at_call 10; refine Calls.quiet_of_same (less_dec (unhide Hbf) (Ctx.drewN (unhide Q3) _) (unhide HX) hov hm1 ib' ia)))
                    go_wp2
                    go_roundw
                    case rel => exact ⟨1, rfl, by omega, hide (by rw [unhide Ht1]; show T3 _ tb (bA (bf X ow) (a, b, c)); rw [bA, if_pos (unhide Hbf)]; exact ((unhide P1).drewN nq).sw0), hide ((((unhide Q2).drewN nq).other hne4 _ _).other hne4 _ _), hide ((((unhide Q3).drewN nq).set hne1 hne2 hne3 hvt _ _).set hne1 hne2 hne3 hvt _ _), by simpa using hszq⟩
                    case measure => simp [intOf]
                  · have Hbf := hide hbf
                    clear hbf
                    go_wp2
                    go_quiet ((go_at_call 10; refine Calls.quiet_of_same (less_dec (unhide Hbf) (Ctx.drewN (unhide Q3) _) (unhide HX) hov hm1 ib' ia)))
                    go_wp2
                    go_roundw
                    case rel => exact ⟨1, rfl, by omega, hide (by rw [unhide Ht1]; show T3 _ tb (bA (bf X ow) (a, b, c)); rw [bA, if_neg (by rw [unhide Hbf]; decide)]; exact (unhide P1).drewN nq), hide ((unhide Q2).drewN nq), hide ((unhide Q3).drewN nq), hszq⟩
                    case measure => simp [intOf]
                · obtain rfl : k' = 0 := by omega
                  have hin := in3_bi (f := bf X ow) (unhide HIn 0) 1
                  obtain ⟨t1, ht1⟩ : ∃ t1, bi (bf X ow) (bo (bf X ow) t0 0) 1 = t1 := ⟨_, rfl⟩
                  have Ht1 := hide ht1
                  rw [ht1] at hin
                  have P1 : Hid (T3 wr tb t1) := hide (by rw [← ht1]; exact unhide Q1)
                  clear ht1 Q1
                  obtain ⟨a, b, c⟩ := t1
                  obtain ⟨⟨c0, c1, c2⟩, f0, f1, f2⟩ := unhide P1
                  obtain ⟨ia, ib', ic⟩ := hin
                  have hdec : bf X ow c b = true ∨ bf X ow c b = false := by cases bf X ow c b <;> simp
                  dsimp only at c0 c1 c2 ia ib' ic
                  have hne1 : tb ≠ sb := by omega
                  have hne2 : tb ≠ ib := by omega
                  have hne3 : tb ≠ ob := by omega
                  have hne4 : tb ≠ xb := by omega
                  have hvt : vb ≤ tb := by omega
                  rcases hdec with hbf | hbf
                  · have Hbf := hide hbf
                    clear hbf
                    go_wp2
                    go_quiet ((go_at_call 10; refine Calls.quiet_of_same (less_dec (unhide Hbf) (Ctx.drewN (unhide Q3) _) (unhide HX) hov hm1 ic ib')))
                    go_wp2
                    go_roundw
                    case rel => exact ⟨2, rfl, by omega, hide (by show T3 _ tb (bB (bf X ow) (bi (bf X ow) (bo (bf X ow) t0 0) 1)); rw [unhide Ht1, bB, if_pos (unhide Hbf)]; exact ((unhide P1).drewN nq).sw1), hide ((((unhide Q2).drewN nq).other hne4 _ _).other hne4 _ _), hide ((((unhide Q3).drewN nq).set hne1 hne2 hne3 hvt _ _).set hne1 hne2 hne3 hvt _ _), by simpa using hszq⟩
                    case measure => simp [intOf]
                  · have Hbf := hide hbf
                    clear hbf
                    go_wp2
                    go_quiet ((go_at_call 10; refine Calls.quiet_of_same (less_dec (unhide Hbf) (Ctx.drewN (unhide Q3) _) (unhide HX) hov hm1 ic ib')))
                    go_wp2
                    go_roundw
                    case rel => exact ⟨2, rfl, by omega, hide (by show T3 _ tb (bB (bf X ow) (bi (bf X ow) (bo (bf X ow) t0 0) 1)); rw [unhide Ht1, bB, if_neg (by rw [unhide Hbf]; decide)]; exact (unhide P1).drewN nq), hide ((unhide Q2).drewN nq), hide ((unhide Q3).drewN nq), hszq⟩
                    case measure => simp [intOf]
              · have hjl' : ¬ ((j' : Int) < 2 - (k' : Int)) := by omega
                go_wp2
                go_roundw
                case rel =>
                  refine ⟨k' + 1, by go_num, by omega, ?_, Q2, Q3, hszq⟩
                  rcases (show (k' = 0 ∧ j' = 2) ∨ (k' = 1 ∧ j' = 1) by omega) with ⟨rfl, rfl⟩ | ⟨rfl, rfl⟩
                  · exact Q1
                  · exact Q1
                case measure => simp [intOf]; omega
          · obtain rfl : k' = 2 := by omega
            go_wp2
            go_meet
            case rel => exact ⟨R1, R2, R3, hszr⟩
      case rest =>
        obtain ⟨wD, rfl⟩ : ∃ wo : World, wo = wc := ⟨_, rfl⟩
        obtain ⟨R1, R2, R3, hszr⟩ := hcut
        clear HT9 HX9 HC9 hsz9 HIn
        obtain ⟨pi, hpi'⟩ : ∃ pi, pi = pIdx (fS X ow S) n := ⟨_, rfl⟩
        have hmed := med_same (X := X) (v := ow) (S := S) (unhide Hqa) (unhide Hqb) (unhide Hqc)
        rw [← hpi'] at HOk hmed hpi
        have HPi := hide hpi'
        rw [← unhide Ht0] at hmed
        obtain ⟨p, hp⟩ : ∃ p, p = S[pi]?.getD 0 := ⟨_, rfl⟩
        rw [← hp] at hmed
        have Hp := hide hp
        have cp : wD.cell? ⟨tb, 1, none⟩ = some (.int .i64 p) := by rw [← hmed]; exact (unhide R1).1.2.1
        have cw : wD.cell? ⟨sb, jt, none⟩ = some (.int .i64 p) := by rw [hp, ← (unhide HOk).2.1]; exact ((unhide R3).1 jt hjt).1
        have hpr : 1 ≤ p ∧ p ≤ m := by rw [hp]; exact unhide HSr pi hpi
        have HTr : Hid (∀ t, t < n → 1 ≤ T[t]?.getD 0 ∧ T[t]?.getD 0 ≤ m) := hide (perm_all (P := fun x => 1 ≤ x ∧ x ≤ (m : Int)) (unhide HOk).2.2.2.2.1 (unhide HOk).2.2.2.2.2.1 (unhide HS) (unhide HSr))
        have hjt' : (jt : Int) < n := by omega
        clear hmed hp hpi' R1 Ht0
        have hd1 : decide ((jt : Int) < 0) = false := by simp
        have hd2 : decide (n ≤ jt) = false := by simp; omega
        go_upto_block 8 with fail
        clear hd1 hd2
        go_cut [] (fun wx => Hid (T3 wx xb ((qa : Int), (qb : Int), (qc : Int))) ∧ Hid (Ctx w vb ib ob sb m n X S T wx) ∧ tb < wx.heap.size)
        case first =>
          clear cp cw
          go_wp2_with fail
          go_loopw [28] (fun i wr => ∃ k : Nat, i = .int .i64 k ∧ jt < k ∧ k ≤ n ∧ Hid (T3 wr xb ((qa : Int), (qb : Int), (qc : Int))) ∧ Hid (Ctx w vb ib ob sb m n X S T wr) ∧ tb < wr.heap.size) (fun i _ => n - (intOf i).toNat)
          case atStart => exact ⟨jt + 1, by go_num, by omega, by omega, R2, R3, hszr⟩
          case round =>
            obtain ⟨k, rfl, hk0, hk1, Q2, Q3, hszq⟩ := hrel
            clear R2 R3 hszr
            by_cases hlt : k < n
            · have hlt' : (k : Int) < n := by omega
              have ck := ((unhide Q3).1 k hlt).1
              have hkr := unhide HTr k hlt
              have Hbf : Hid (bf X ow (T[k]?.getD 0) p = false) := hide (by rw [unhide Hp]; exact (unhide HOk).2.2.1 k hk0 hlt)
              go_wp2_with (go_at_call 10; refine (less_dec (unhide Hbf) (unhide Q3) (unhide HX) hov hm1 hkr hpr).mono ?_; rintro e w' ⟨rfl, rfl⟩)
              go_roundw
              case rel => exact ⟨k + 1, by go_num, by omega, by omega, Q2, Q3, hszq⟩
              case measure => simp [intOf]; omega
            · go_wp2
              go_meet
              case rel => exact ⟨Q2, Q3, hszq⟩
        case rest =>
          obtain ⟨wE, rfl⟩ : ∃ wo : World, wo = wc := ⟨_, rfl⟩
          rename_i hszD
          obtain ⟨R2, R3, hszE⟩ := hcut
          clear cp cw
          obtain ⟨ks, hks, hixp⟩ : ∃ ks, ks ≤ 2 ∧ ix3 qa qb qc ks = pi := by
            rw [unhide HPi]; exact pIdx_mem (unhide Hqa) (unhide Hqb) (unhide Hqc)
          have Hix := hide hixp
          clear hixp
          obtain ⟨L, hL⟩ : ∃ L : Nat, (n : Int) - 1 = L := ⟨n - 1, by omega⟩
          have HLn : Hid (L = n - 1) := hide (by omega)
          have hLn : L < n := by omega
          have hLn' : (L : Int) < n := by omega
          go_upto_block 10 with fail
          go_cut [29] (fun fnd wx => fnd = .bool true ∧ Hid (Ctx w vb ib ob sb m n X S T wx) ∧ tb < wx.heap.size)
          case first =>
            go_wp2_with fail
            go_loopg [29, 30] 3 (fun g fnd k wr => ∃ (k' : Nat) (b : Bool), k = .int .i64 k' ∧ fnd = .bool b ∧ k' + g = 3 ∧ (b = false → k' ≤ ks) ∧ Hid (T3 wr xb ((qa : Int), (qb : Int), (qc : Int))) ∧ Hid (Ctx w vb ib ob sb m n X S T wr) ∧ tb < wr.heap.size)
            case atStart => exact ⟨0, false, rfl, rfl, rfl, fun _ => Nat.zero_le _, R2, R3, hszE⟩
            case round =>
              obtain ⟨k', b, rfl, rfl, hg, hbk, Q2, Q3, hszq⟩ := hrel
              clear R2 R3 hszE
              cases b with
              | true =>
                by_cases h3 : k' < 3
                · have h3' : (k' : Int) < 3 := by omega
                  go_wp2
                  go_meet
                  case rel => exact ⟨rfl, Q3, hszq⟩
                · have h3' : ¬ ((k' : Int) < 3) := by omega
                  go_wp2
                  go_meet
                  case rel => exact ⟨rfl, Q3, hszq⟩
              | false =>
                have hkk := hbk rfl
                clear hbk
                have h3' : (k' : Int) < 3 := by omega
                obtain ⟨jx, hjx, hjxn, cjx⟩ : ∃ jx : Nat, jx = ix3 qa qb qc k' ∧ jx < n ∧ wr.cell? ⟨xb, k', none⟩ = some (.int .i64 jx) := ix_cell (unhide Q2) (by omega) ha hb hc
                have Hjx := hide hjx
                have hjxn' : (jx : Int) < n := by omega
                have co := ((unhide Q3).2.2.1 jx hjxn).1
                clear hjx
                by_cases hpe : S[jx]?.getD 0 = p
                · have hpe' : (S[jx]?.getD 0 != p) = false := by simp [hpe]
                  have Hpe := hide hpe
                  clear hpe
                  have hvr : vb ≤ wr.heap.size := by omega
                  go_wp2_with fail
                  refine (Yba.slices_Clone_int ob 0 n n S _ (by rw [unhide HS]; exact Nat.le_refl _) (by omega) ?hc).mono ?_
                  case hc => exact fun j hj => by rw [Nat.zero_add]; exact ((unhide Q3).2.2.1 j (by rw [← unhide HS]; exact hj)).1
                  rintro e wG ⟨v', rfl, hownG, hnnG, hbG⟩
                  obtain ⟨g, gcap, hvG, hg0, hg1⟩ : ∃ sb cap, v' = .slice (some ⟨sb, 0, none⟩) n cap ∧ wr.heap.size ≤ sb ∧ sb < wG.heap.size := by
                    rcases hownG.2 with ⟨e, _⟩ | ⟨g, cp, cur, e, hbase, hg, _⟩
                    · exact absurd e hnnG
                    · exact ⟨g, cp, e, hbase, (Array.getElem?_eq_some_iff.1 hg).1⟩
                  rw [hvG] at hownG ⊢
                  have RG : Hid (Rw wG g n (fun i => .int .i64 (S[i]?.getD 0))) := hide (Rw.of_own hownG (fun i hi => by
                    rw [List.take_of_length_le (by rw [unhide HS]; exact Nat.le_refl _), List.getElem?_map, List.getElem?_eq_getElem (by rw [unhide HS]; exact hi)]; rfl))
                  have CG := hide ((unhide Q3).below hvr hbG)
                  have XG := hide ((unhide Q2).below hbG)
                  have hszG := hbG.size
                  clear hownG hnnG hbG hvG
                  obtain ⟨cG1, fG1⟩ := (unhide RG) jx hjxn
                  obtain ⟨cG2, fG2⟩ := (unhide RG) L hLn
                  obtain ⟨v', hy'⟩ := cell?_setCell_some (w := wG) (p := ⟨g, jx, none⟩) (x := .int .i64 (S[L]?.getD 0)) (q := ⟨g, L, none⟩) (v := .int .i64 (S[L]?.getD 0)) cG2
                  go_upto_region 59 with fail
                  have hgs : g ≠ sb := by omega
                  have hgi : g ≠ ib := by omega
                  have hgo : g ≠ ob := by omega
                  have hgx : g ≠ xb := by omega
                  have hgv : vb ≤ g := by omega
                  have RH : Hid (Rw ((wG.setCell ⟨g, jx, none⟩ (.int .i64 (S[L]?.getD 0))).setCell ⟨g, L, none⟩ (.int .i64 (S[jx]?.getD 0))) g n (fun i => .int .i64 ((swl S jx L)[i]?.getD 0))) :=
                    hide ((unhide RG).swl (unhide HS) hjxn hLn)
                  have CH := hide (((unhide CG).set hgs hgi hgo hgv jx (.int .i64 (S[L]?.getD 0))).set hgs hgi hgo hgv L (.int .i64 (S[jx]?.getD 0)))
                  have XH := hide (((unhide XG).other hgx jx (.int .i64 (S[L]?.getD 0))).other hgx L (.int .i64 (S[jx]?.getD 0)))
                  have hszH : wG.heap.size = ((wG.setCell ⟨g, jx, none⟩ (.int .i64 (S[L]?.getD 0))).setCell ⟨g, L, none⟩ (.int .i64 (S[jx]?.getD 0))).heap.size := by simp [World.setCell]
                  clear RG CG XG cG1 cG2 fG1 fG2 hy'
                  generalize (wG.setCell ⟨g, jx, none⟩ (.int .i64 (S[L]?.getD 0))).setCell ⟨g, L, none⟩ (.int .i64 (S[jx]?.getD 0)) = wH at *
                  obtain ⟨sw, hsw⟩ : ∃ sw, sw = swl S jx L := ⟨_, rfl⟩
                  rw [← hsw] at RH
                  have Hsw := hide hsw
                  have HswL : Hid (sw.length = n) := hide (by rw [hsw, swl_length]; exact unhide HS)
                  have Hswr : Hid (∀ t, t < n → 1 ≤ sw[t]?.getD 0 ∧ sw[t]?.getD 0 ≤ m) := hide (by rw [hsw]; exact swl_all (P := fun x => 1 ≤ x ∧ x ≤ (m : Int)) (unhide HS) hjxn hLn (unhide HSr))
                  clear hsw
                  go_wp2_with (at_make; refine wpList_make_own _ rfl _ _ 27 rfl wH.heap.size 3 i3 (.int .i64 0) 1 Yba.underlying27 hi3 hx0 hx1 _ _ _ n rfl rfl rfl ?b2 ?b3 (Nat.le_refl _) ?_)
                  case b2 => (try rw [hx2]); omega
                  case b3 => unfold maxLen; omega
                  intro wI hownI hgrowI
                  have hbI : Below wH.heap.size wH wI := (Below.refl _ _).grown hgrowI (Nat.le_refl _) (fun k h => by cases h)
                  have hpb := (hownI.lt _ rfl).2
                  have OI := hide hownI
                  have RI := hide ((unhide RH).below hbI)
                  have CI := hide ((unhide CH).below (by omega) hbI)
                  have XI := hide ((unhide XH).below hbI)
                  clear hownI hgrowI hbI RH CH XH
                  generalize hpbe : wH.heap.size = pb at *
                  clear hpbe
                  go_upto_block 12 with fail
                  go_cut [34] (fun pre wx => ∃ cnt : Nat, pre = .slice (some ⟨pb, 0, none⟩) cnt n ∧ cnt ≤ n ∧ Hid (wx.ownsRow pb 3 1 (.slice (some ⟨pb, 0, none⟩) cnt n) cnt (((sw.take L).filter (fun x => bf X ow x p)).map (Value.int .i64))) ∧ Hid (Ctx w vb ib ob sb m n X S T wx) ∧ Hid (T3 wx xb ((qa : Int), (qb : Int), (qc : Int))) ∧ pb < wx.heap.size)
                  case first =>
                    go_wp2_with fail
                    obtain ⟨wo, rfl⟩ : ∃ wo : World, wo = wr := ⟨_, rfl⟩
                    go_loopw [34, 35] (fun pre i wr => ∃ k cnt : Nat, i = .int .i64 k ∧ k ≤ L ∧ pre = .slice (some ⟨pb, 0, none⟩) cnt n ∧ cnt ≤ k ∧ Hid (wr.ownsRow pb 3 1 (.slice (some ⟨pb, 0, none⟩) cnt n) cnt (((sw.take k).filter (fun x => bf X ow x p)).map (Value.int .i64))) ∧ Hid (Rw wr g n (fun t => .int .i64 (sw[t]?.getD 0))) ∧ Hid (Ctx w vb ib ob sb m n X S T wr) ∧ Hid (T3 wr xb ((qa : Int), (qb : Int), (qc : Int))) ∧ pb < wr.heap.size) (fun _ i _ => L - (intOf i).toNat)
                    case atStart => exact ⟨0, 0, rfl, Nat.zero_le _, rfl, Nat.le_refl _, OI, RI, CI, XI, hpb⟩
                    case round =>
                      obtain ⟨k, cnt, rfl, hkL, rfl, hcnt, O7, R7, C7, X7, hpb7⟩ := hrel
                      clear OI RI CI XI hpb
                      by_cases hlt : k < L
                      · have hlt' : (k : Int) < L := by omega
                        have hkn : k < n := by omega
                        have hkn' : (k : Int) < n := by omega
                        have ck : wr.cell? ⟨g, k, none⟩ = some (.int .i64 (sw[k]?.getD 0)) := ((unhide R7) k hkn).1
                        have hkr := unhide Hswr k hkn
                        have hdec : bf X ow (sw[k]?.getD 0) p = true ∨ bf X ow (sw[k]?.getD 0) p = false := by cases bf X ow (sw[k]?.getD 0) p <;> simp
                        obtain ⟨x, hx⟩ : ∃ x, sw[k]?.getD 0 = x := ⟨_, rfl⟩
                        rw [hx] at ck hkr hdec
                        have Hx := hide hx
                        clear hx
                        have hps : pb ≠ sb := by omega
                        have hpi2 : pb ≠ ib := by omega
                        have hpo : pb ≠ ob := by omega
                        have hpv : vb ≤ pb := by omega
                        rcases hdec with hbf | hbf
                        · have Hbf := hide hbf
                          clear hbf
                          go_wp2_with (first
                            | (go_at_call 10; refine (less_dec (unhide Hbf) (unhide C7) (unhide HX) hov hm1 hkr hpr).mono ?_; rintro e w7' ⟨rfl, rfl⟩)
                            | (at_builtin; refine wpList_append_fits _ rfl (.tmp 253) (.tmp 258) 27 rfl pb 3 i3 1 Yba.underlying27 hi3 hx1 pb cnt n _ rfl ((unhide O7).alloc _) ⟨w7'.heap.size, 0, none⟩ 1 1 [.int .i64 x] rfl rfl ?c1 ?c2 (by omega) ?_))
                          case c1 => intro j u hj; match j, hj with | 0, hj => simp at hj; subst hj; simp [Addr.add]
                          case c2 => intro u hu; simp at hu; subst hu; rfl
                          intro wJ hownJ hgrowJ
                          have hbJ : Below w7'.heap.size w7' (w7'.alloc (.cells #[.int .i64 x] 3)) := (Below.refl _ _).alloc (Nat.le_refl _) _
                          have RJ := hide (((unhide R7).below hbJ).grown hgrowJ (by simp; omega))
                          have CJ := hide (((unhide C7).below (by omega) hbJ).grown hps hpi2 hpo (by simp; omega) hpv hgrowJ)
                          have XJ : Hid (T3 wJ xb ((qa : Int), (qb : Int), (qc : Int))) := hide (((unhide X7).below hbJ).grown hgrowJ (by omega))
                          have hpbJ : pb < wJ.heap.size := by have := hgrowJ.size; simp at this; omega
                          have OJ : Hid (wJ.ownsRow pb 3 1 (.slice (some ⟨pb, 0, none⟩) (cnt + 1) n) (cnt + 1) (((sw.take (k + 1)).filter (fun x => bf X ow x p)).map (Value.int .i64))) := hide (by
                            rw [filter_yes (by rw [unhide HswL]; exact hkn) (by rw [unhide Hx]; exact unhide Hbf), List.map_append, unhide Hx]; exact hownJ)
                          clear hownJ hgrowJ hbJ O7 R7 C7 X7
                          go_wp2
                          go_roundw
                          case rel => exact ⟨k + 1, cnt + 1, by go_num, by omega, rfl, by omega, OJ, RJ, CJ, XJ, hpbJ⟩
                          case measure => simp [intOf]; omega
                        · have Hbf := hide hbf
                          clear hbf
                          go_wp2_with (go_at_call 10; refine (less_dec (unhide Hbf) (unhide C7) (unhide HX) hov hm1 hkr hpr).mono ?_; rintro e w7' ⟨rfl, rfl⟩)
                          go_roundw
                          case rel => exact ⟨k + 1, cnt, by go_num, by omega, rfl, by omega, hide (by rw [filter_no (by rw [unhide HswL]; exact hkn) (by rw [unhide Hx]; exact unhide Hbf)]; exact unhide O7), R7, C7, X7, hpb7⟩
                          case measure => simp [intOf]; omega
                      · obtain rfl : k = L := by omega
                        go_wp2
                        go_meet
                        case rel => exact ⟨cnt, rfl, by omega, O7, C7, X7, hpb7⟩
                  case rest =>
                    obtain ⟨wK, rfl⟩ : ∃ wo : World, wo = wc := ⟨_, rfl⟩
                    obtain ⟨cnt, rfl, hcntn, O8, C8, X8, hpb8⟩ := hcut
                    clear OI RI CI XI hpb
                    have hjc : (jt : Int) ≤ cap := by omega
                    have hlen : ((sw.take L).filter (fun x => bf X ow x p)).length = cnt := by have := (unhide O8).1; simpa using this
                    obtain ⟨fl, hfl⟩ : ∃ fl, fl = (sw.take L).filter (fun x => bf X ow x p) := ⟨_, rfl⟩
                    rw [← hfl] at O8 hlen
                    have Hfl := hide hfl
                    have Hlen := hide hlen
                    clear hfl hlen
                    have hres : (fl == T.take jt) = true ∨ (fl == T.take jt) = false := by cases (fl == T.take jt) <;> simp
                    go_wp2_with fail
                    refine (Yba.slices_Equal_int pb 0 cnt n sb 0 jt cap fl T _ (by rw [unhide Hlen]; exact Nat.le_refl _) (by rw [(unhide HOk).2.2.2.2.2.1]; omega) (by omega) (by omega) ?e1 ?e2).mono ?_
                    case e1 => exact fun j hj => by rw [Nat.zero_add]; exact own_cell (unhide O8) (unhide Hlen) (by rw [← unhide Hlen]; exact hj)
                    case e2 => exact fun j hj => by rw [Nat.zero_add]; exact ((unhide C8).1 j (by rw [← (unhide HOk).2.2.2.2.2.1]; exact hj)).1
                    rintro e wL ⟨rfl, qq, rfl⟩
                    rw [List.take_of_length_le (by rw [unhide Hlen]; exact Nat.le_refl _)]
                    have C9 := hide ((unhide C8).drewN qq)
                    have X9 := hide ((unhide X8).drewN qq)
                    have hpb9 : tb < (wK.drewN qq).heap.size := by show tb < wK.heap.size; omega
                    rcases hres with hres | hres
                    · go_wp2
                      go_roundg (3 - (k' + 1))
                      case measure => omega
                      case rel => exact ⟨k' + 1, true, by go_num, rfl, by omega, (fun h => Bool.noConfusion h), X9, C9, hpb9⟩
                    · have Hres := hide hres
                      rw [hres]
                      clear hres
                      go_wp2
                      go_roundg (3 - (k' + 1))
                      case measure => omega
                      case rel =>
                        refine ⟨k' + 1, false, by go_num, rfl, by omega, fun _ => ?_, X9, C9, hpb9⟩
                        have : k' ≠ ks := by
                          intro e
                          have hjp : jx = pi := by rw [unhide Hjx, e, unhide Hix]
                          have h1 := (unhide HOk).2.2.2.1
                          have h2 : fl = T.take jt := by
                            rw [h1, unhide Hfl, unhide Hsw, hjp, unhide HLn, unhide Hp]
                          have h3 := unhide Hres
                          rw [h2] at h3
                          simp at h3
                        omega
                · have hpe' : (S[jx]?.getD 0 != p) = true := by simp [hpe]
                  have Hpe := hide hpe
                  clear hpe
                  go_wp2
                  go_roundg (3 - (k' + 1))
                  case measure => omega
                  case rel =>
                    refine ⟨k' + 1, false, by go_num, rfl, by omega, fun _ => ?_, Q2, Q3, hszq⟩
                    have : k' ≠ ks := by
                      intro e
                      apply unhide Hpe
                      rw [unhide Hjx, e, unhide Hix, unhide Hp]
                    omega
          case rest =>
            obtain ⟨wF, rfl⟩ : ∃ wo : World, wo = wc := ⟨_, rfl⟩
            obtain ⟨rfl, R4, hszF⟩ := hcut
            clear R2 R3 hszE
            have hvF : vb ≤ wF.heap.size := by omega
            go_wp2_with fail
            refine (Yba.slices_Clone_int ob 0 n n S _ (by rw [unhide HS]; exact Nat.le_refl _) (by omega) ?hc).mono ?_
            case hc => exact fun j hj => by rw [Nat.zero_add]; exact ((unhide R4).2.2.1 j (by rw [← unhide HS]; exact hj)).1
            rintro e wM ⟨v1, rfl, hownM, hnnM, hbM⟩
            obtain ⟨g1, c1, hv1, hg10, hg11⟩ : ∃ sb cap, v1 = .slice (some ⟨sb, 0, none⟩) n cap ∧ wF.heap.size ≤ sb ∧ sb < wM.heap.size := by
              rcases hownM.2 with ⟨e, _⟩ | ⟨g, cp, cur, e, hbase, hg, _⟩
              · exact absurd e hnnM
              · exact ⟨g, cp, e, hbase, (Array.getElem?_eq_some_iff.1 hg).1⟩
            rw [hv1] at hownM ⊢
            have RM : Hid (Rw wM g1 n (fun i => .int .i64 (S[i]?.getD 0))) := hide (Rw.of_own hownM (fun i hi => by
              rw [List.take_of_length_le (by rw [unhide HS]; exact Nat.le_refl _), List.getElem?_map, List.getElem?_eq_getElem (by rw [unhide HS]; exact hi)]; rfl))
            have CM := hide ((unhide R4).below hvF hbM)
            have hszM := hbM.size
            have HTl : Hid (T.length = n) := hide (unhide HOk).2.2.2.2.2.1
            clear hownM hnnM hbM hv1 R4
            go_wp2_with fail
            refine (Yba.slices_Clone_int sb 0 n cap T _ (by rw [unhide HTl]; exact Nat.le_refl _) (by omega) ?hc).mono ?_
            case hc => exact fun j hj => by rw [Nat.zero_add]; exact ((unhide CM).1 j (by rw [← unhide HTl]; exact hj)).1
            rintro e wN ⟨v2, rfl, hownN, hnnN, hbN⟩
            obtain ⟨g2, c2', hv2, hg20, hg21⟩ : ∃ sb cap, v2 = .slice (some ⟨sb, 0, none⟩) n cap ∧ wM.heap.size ≤ sb ∧ sb < wN.heap.size := by
              rcases hownN.2 with ⟨e, _⟩ | ⟨g, cp, cur, e, hbase, hg, _⟩
              · exact absurd e hnnN
              · exact ⟨g, cp, e, hbase, (Array.getElem?_eq_some_iff.1 hg).1⟩
            rw [hv2] at hownN ⊢
            have RN : Hid (Rw wN g2 n (fun i => .int .i64 (T[i]?.getD 0))) := hide (Rw.of_own hownN (fun i hi => by
              rw [List.take_of_length_le (by rw [unhide HTl]; exact Nat.le_refl _), List.getElem?_map, List.getElem?_eq_getElem (by rw [unhide HTl]; exact hi)]; rfl))
            have RM2 := hide ((unhide RM).below hbN)
            have BN : Hid (Below vb w wN) := hide ((unhide CM).2.2.2.trans (hbN.mono (by omega)))
            have hszN := hbN.size
            clear hownN hnnN hbN hv2 CM RM
            go_wp2_with fail
            refine (sort_any g1 n c1 S _ hn0 hn (unhide HS) (unhide RM2)).mono ?_
            rintro e wO ⟨rfl, hRO, hgO⟩
            have RO1 := hide hRO
            have RO2 := hide ((unhide RN).grown hgO (by simp; omega))
            have BO : Hid (Below vb w wO) := hide ((unhide BN).grown hgO (by rw [← unhide Hve]; rw [← unhide Hve] at BN; exact (unhide BN).size) (fun k hk => by cases hk; omega))
            have hszO := hgO.size
            clear hRO hgO RM2 RN BN
            go_wp2_with fail
            refine (sort_any g2 n c2' T _ hn0 hn (unhide HTl) (unhide RO2)).mono ?_
            rintro e wP ⟨rfl, hRP, hgP⟩
            have RP2 := hide hRP
            have RP1 := hide ((unhide RO1).grown hgP (by simp; omega))
            have BP : Hid (Below vb w wP) := hide ((unhide BO).grown hgP (by rw [← unhide Hve]; rw [← unhide Hve] at BO; exact (unhide BO).size) (fun k hk => by cases hk; omega))
            clear hRP hgP RO1 RO2 BO
            have hme := merge_perm (unhide HOk).2.2.2.2.1
            rw [hme] at RP2
            go_wp2_with fail
            obtain ⟨ms, hms⟩ : ∃ ms, ms = (S.mergeSort fun x y => decide (x ≤ y)) := ⟨_, rfl⟩
            have hml : ms.length = n := by rw [hms, List.length_mergeSort]; exact unhide HS
            rw [← hms] at RP1 RP2
            refine (Yba.slices_Equal_int g1 0 n c1 g2 0 n c2' ms ms _ (by omega) (by omega) (by omega) (by omega) ?e1 ?e2).mono ?_
            case e1 => exact fun j hj => by rw [Nat.zero_add]; exact ((unhide RP1) j (by omega)).1
            case e2 => exact fun j hj => by rw [Nat.zero_add]; exact ((unhide RP2) j (by omega)).1
            rintro e wQ ⟨rfl, qq, rfl⟩
            go_wp2_with fail
            go_ret
            exact ⟨ret_bool (by simp), by rw [unhide Hve]; exact below_drewN (unhide BP) _⟩
end Go.Proofs.Ybulkdzjs.A

import Derived.Test.YbulkdzjsA2
import Derived.BigRegion
import Derived.Deep.DeepCutAuto
import Derived.Deep.CutBlock
import Derived.Deep.LoopGhost
import Derived.Deep.DeepMust
namespace Go.Proofs.Ybulkdzjs.A
open Go.RowKit Flt

theorem hide {p : Prop} (h : p) : Hid p := h
theorem unhide {p : Prop} (h : Hid p) : p := h

/-- Does sender a rank before sender b, the senders' values being X? -/
def bf (X : Nat → Int) (v : Int) (a b : Int) : Bool := before (X (a.toNat - 1)) (X (b.toNat - 1)) v a b

/-- The values lie in block vb. -/
def Vals (X : Nat → Int) (vb m : Nat) (w : World) : Prop := ∀ i, i < m → w.cell? ⟨vb, i, none⟩ = some (.float .f64 (F (X i)))
theorem Vals.below {X : Nat → Int} {vb m : Nat} {w w' : World} (h : Vals X vb m w) (hb : Below w.heap.size w w') : Vals X vb m w' := fun i hi => below_cell hb (World.block_lt_of_cell? _ _ (h i hi)) (h i hi)

/-- What the regions of 'partition' that rank need of the world. -/
abbrev Reg (W : World) (bx vb m : Nat) (v : Int) (sb i j : Nat) (x y : Int) (w : World) : Prop :=
  w.cell? ⟨bx, 0, none⟩ = some (.slice (some ⟨vb, 0, none⟩) m m) ∧ w.cell? ⟨bx, 1, none⟩ = some (.float .f64 (F v)) ∧ w.cell? ⟨sb, i, none⟩ = some (.int .i64 x) ∧ w.cell? ⟨sb, j, none⟩ = some (.int .i64 y) ∧ Below W.heap.size W w
theorem Reg.below {W : World} {bx vb m : Nat} {v : Int} {sb i j : Nat} {x y : Int} {w w' : World} (h : Reg W bx vb m v sb i j x y w) (hb : Below w.heap.size w w') : Reg W bx vb m v sb i j x y w' :=
  ⟨below_cell hb (World.block_lt_of_cell? _ _ h.1) h.1, below_cell hb (World.block_lt_of_cell? _ _ h.2.1) h.2.1, below_cell hb (World.block_lt_of_cell? _ _ h.2.2.1) h.2.2.1, below_cell hb (World.block_lt_of_cell? _ _ h.2.2.2.1) h.2.2.2.1, h.2.2.2.2.trans (hb.mono h.2.2.2.2.size)⟩

theorem reg_drew {W : World} {bx vb m : Nat} {v : Int} {sb i j : Nat} {x y : Int} {w : World} (h : Reg W bx vb m v sb i j x y w) : Reg W bx vb m v sb i j x y w.drew := ⟨h.1, h.2.1, h.2.2.1, h.2.2.2.1, h.2.2.2.2.drew⟩
theorem own_cell {w : World} {B sb n cap : Nat} {S : List Int} (h : w.ownsRow B 3 1 (.slice (some ⟨sb, 0, none⟩) n cap) n (S.map (Value.int .i64))) (hS : S.length = n) {t : Nat} (ht : t < n) : w.cell? ⟨sb, t, none⟩ = some (.int .i64 (S[t]?.getD 0)) := by
  rw [h.cellAt t (by omega), List.getElem?_map, List.getElem?_eq_getElem (by omega)]
  rfl
theorem below_grown {w w' : World} (h : Below w.heap.size w w') (row : Option Nat) : w.grownBy w' row := ⟨h.os, h.tape, h.output, h.size, fun k hk _ => h.block k hk⟩
theorem cell?_setCell_some {w : World} {p q : Addr} {x v : Value} (h : w.cell? q = some v) : ∃ v', (w.setCell p x).cell? q = some v' := by
  by_cases e : p = q
  · subst e; exact ⟨x, World.cell?_setCell_same w p x h⟩
  · exact ⟨v, (World.cell?_setCell_other w p q x e).trans h⟩
theorem bf_call {X : Nat → Int} {W : World} {bx vb m : Nat} {v : Int} {sb i j : Nat} {x y : Int} (w : World) (hS : Reg W bx vb m v sb i j x y w) (hV : Vals X vb m W) (hX : ∀ i, Sm (X i)) (hv : Sm v) (hm : m ≤ 65537)
    (hx : 1 ≤ x ∧ x ≤ m) (hy : 1 ≤ y ∧ y ≤ m) :
    Calls Yba.prog 19 #[.agg #[.slice (some ⟨vb, 0, none⟩) m m, .float .f64 (F v)], .int .i64 x, .int .i64 y] w fun e w' => e = .returned (.bool (bf X v x y)) ∧ Reg W bx vb m v sb i j x y w' :=
  (before_any vb m _ _ v x y w hx.1 hx.2 hy.1 hy.2 hm (hX _) (hX _) hv (hV.below hS.2.2.2.2 _ (by omega)) (hV.below hS.2.2.2.2 _ (by omega))).mono fun _ _ ⟨h1, h2⟩ => ⟨h1, hS.below h2⟩

/-- Rank of the senders at two places. -/
def fS (X : Nat → Int) (v : Int) (S : List Int) (i j : Nat) : Bool := bf X v (S[i]?.getD 0) (S[j]?.getD 0)
/-- The median of three, by rank: first the two lower places are put in order .. -/
def med1 (f : Nat → Nat → Bool) (a b : Nat) : Nat × Nat := if f b a then (b, a) else (a, b)
/-- .. then the third is put in its place. -/
def med2 (f : Nat → Nat → Bool) (a b c : Nat) : Nat := if f c b then (if f c a then a else c) else b
/-- The pivot's place. -/
def pIdx (f : Nat → Nat → Bool) (n : Nat) : Nat := med2 f (med1 f (n / 4) (n / 2)).1 (med1 f (n / 4) (n / 2)).2 (3 * n / 4)
section
variable {X : Nat → Int} {v : Int} {S : List Int} {a b c : Nat}
theorem med1_yes (h : bf X v (S[b]?.getD 0) (S[a]?.getD 0) = true) : med1 (fS X v S) a b = (b, a) := if_pos h
theorem med1_no (h : bf X v (S[b]?.getD 0) (S[a]?.getD 0) = false) : med1 (fS X v S) a b = (a, b) := if_neg (by unfold fS; rw [h]; decide)
theorem med2_no (h : bf X v (S[c]?.getD 0) (S[b]?.getD 0) = false) : med2 (fS X v S) a b c = b := if_neg (by unfold fS; rw [h]; decide)
theorem med2_a (h : bf X v (S[c]?.getD 0) (S[b]?.getD 0) = true) (h2 : bf X v (S[c]?.getD 0) (S[a]?.getD 0) = true) : med2 (fS X v S) a b c = a := (if_pos h).trans (if_pos h2)
theorem med2_c (h : bf X v (S[c]?.getD 0) (S[b]?.getD 0) = true) (h2 : bf X v (S[c]?.getD 0) (S[a]?.getD 0) = false) : med2 (fS X v S) a b c = c := (if_pos h).trans (if_neg (by unfold fS; rw [h2]; decide))
end

/-- Two places exchanged. -/
def swl (D : List Int) (i j : Nat) : List Int := (D.set i (D[j]?.getD 0)).set j (D[i]?.getD 0)
theorem swl_length (D : List Int) (i j : Nat) : (swl D i j).length = D.length := by simp [swl]

/-- The row of senders in the world: it holds D, and nothing but it has turned since W. -/
def St (W : World) (B sb n cap : Nat) (D : List Int) (w : World) : Prop :=
  w.ownsRow B 3 1 (.slice (some ⟨sb, 0, none⟩) n cap) n (D.map (Value.int .i64)) ∧ D.length = n ∧ W.grownBy w (some sb)
section
variable {W : World} {B sb n cap : Nat} {D : List Int} {w w' : World}
theorem grown_trans {a b c : World} {row : Option Nat} (h : a.grownBy b row) (k : b.grownBy c row) : a.grownBy c row :=
  ⟨k.os.trans h.os, k.tape.trans h.tape, k.output.trans h.output, Nat.le_trans h.size k.size, fun i hi hn => (k.block i (Nat.lt_of_lt_of_le hi h.size) hn).trans (h.block i hi hn)⟩
theorem St.below (h : St W B sb n cap D w) (hb : Below w.heap.size w w') : St W B sb n cap D w' :=
  ⟨h.1.kept (below_grown hb none) (Or.inr (by simp [Value.ownBlock])), h.2.1, grown_trans h.2.2 (below_grown hb _)⟩
theorem St.drew (h : St W B sb n cap D w) : St W B sb n cap D w.drew := ⟨h.1.drew, h.2.1, ⟨h.2.2.os, h.2.2.tape, h.2.2.output, h.2.2.size, h.2.2.block⟩⟩
theorem St.cell (h : St W B sb n cap D w) {t : Nat} (ht : t < n) : w.cell? ⟨sb, t, none⟩ = some (.int .i64 (D[t]?.getD 0)) := own_cell h.1 h.2.1 ht
theorem St.frozen (h : St W B sb n cap D w) (t : Nat) : w.frozen? ⟨sb, t, none⟩ = false := h.1.frozenAt t
theorem St.other (h : St W B sb n cap D w) {b o : Nat} {u : Value} (hb : b ≠ sb) (hc : W.cell? ⟨b, o, none⟩ = some u) : w.cell? ⟨b, o, none⟩ = some u := h.2.2.cell hc (by simpa using hb)
theorem St.vals (h : St W B sb n cap D w) {X : Nat → Int} {vb m : Nat} (hb : vb ≠ sb) (hV : Vals X vb m W) : Vals X vb m w := fun i hi => h.other hb (hV i hi)
theorem St.swap (h : St W B sb n cap D w) (i j : Nat) : St W B sb n cap (swl D i j) ((w.setCell ⟨sb, i, none⟩ (.int .i64 (D[j]?.getD 0))).setCell ⟨sb, j, none⟩ (.int .i64 (D[i]?.getD 0))) := by
  obtain ⟨h1, h2, h3⟩ := h
  obtain ⟨a1, a2⟩ := h1.stored i (.int .i64 (D[j]?.getD 0))
  obtain ⟨b1, b2⟩ := a1.stored j (.int .i64 (D[i]?.getD 0))
  refine ⟨?_, by rw [swl_length]; exact h2, grown_trans (grown_trans h3 a2) b2⟩
  have e : (swl D i j).map (Value.int .i64) = ((D.map (Value.int .i64)).set i (.int .i64 (D[j]?.getD 0))).set j (.int .i64 (D[i]?.getD 0)) := by
    unfold swl; rw [List.map_set, List.map_set]
  rw [e]
  exact b1
end

/-- What a round's ranking needs of the world. -/
abbrev Rnd (V : World) (bx vb m : Nat) (v : Int) (w : World) : Prop :=
  w.cell? ⟨bx, 0, none⟩ = some (.slice (some ⟨vb, 0, none⟩) m m) ∧ w.cell? ⟨bx, 1, none⟩ = some (.float .f64 (F v)) ∧ Below V.heap.size V w
theorem Rnd.below {V : World} {bx vb m : Nat} {v : Int} {w w' : World} (h : Rnd V bx vb m v w) (hb : Below w.heap.size w w') : Rnd V bx vb m v w' :=
  ⟨below_cell hb (World.block_lt_of_cell? _ _ h.1) h.1, below_cell hb (World.block_lt_of_cell? _ _ h.2.1) h.2.1, h.2.2.trans (hb.mono h.2.2.size)⟩
theorem rnd_dist {X : Nat → Int} {V : World} {bx vb m : Nat} {v x : Int} (w : World) (hS : Rnd V bx vb m v w) (hV : Vals X vb m V) (hX : ∀ i, Sm (X i)) (hv : Sm v) (hm : m ≤ 65537) (hx : 1 ≤ x ∧ x ≤ m) :
    Calls Yba.prog 20 #[.agg #[.slice (some ⟨vb, 0, none⟩) m m, .float .f64 (F v)], .int .i64 x] w fun e w' => e = .returned (.float .f64 (dist (X (x.toNat - 1)) v)) ∧ Rnd V bx vb m v w' :=
  (distance_any vb m _ v x w hx.1 hx.2 hm (hX _) hv (hV.below hS.2.2 _ (by omega))).mono fun _ _ ⟨h1, h2⟩ => ⟨h1, hS.below h2⟩
theorem rnd_at {X : Nat → Int} {V : World} {bx vb m : Nat} {v x y : Int} (w : World) (hS : Rnd V bx vb m v w) (hV : Vals X vb m V) (hX : ∀ i, Sm (X i)) (hv : Sm v) (hm : m ≤ 65537) (hx : 1 ≤ x ∧ x ≤ m) (hy : 1 ≤ y ∧ y ≤ m) :
    Calls Yba.prog 21 #[.agg #[.slice (some ⟨vb, 0, none⟩) m m, .float .f64 (F v)], .int .i64 x, .float .f64 (dist (X (x.toNat - 1)) v), .int .i64 y, .float .f64 (dist (X (y.toNat - 1)) v)] w fun e w' => e = .returned (.bool (bf X v x y)) ∧ Rnd V bx vb m v w' :=
  (beforeAt_any vb m _ _ v x y w hx.1 hx.2 hy.1 hy.2 hm (hX _) (hX _) hv (hV.below hS.2.2 _ (by omega)) (hV.below hS.2.2 _ (by omega))).mono fun _ _ ⟨h1, h2⟩ => ⟨h1, hS.below h2⟩

/-- The partition's loop behind k rounds: j elements rank before the pivot ('f'), in their order; none of the others up to k does; the rest is as it was. -/
def Lom (f : Int → Bool) (S1 : List Int) (k j : Nat) (D : List Int) : Prop :=
  j ≤ k ∧ D.take j = (S1.take k).filter f ∧ (∀ i, j ≤ i → i < k → f (D[i]?.getD 0) = false) ∧ (∀ i, k ≤ i → D[i]? = S1[i]?) ∧ D.Perm S1

theorem getD_set {l : List Int} {i t : Nat} {x : Int} (hi : i < l.length) : (l.set i x)[t]?.getD 0 = if i = t then x else l[t]?.getD 0 := by
  rw [List.getElem?_set]
  split
  · first | rfl | (rw [if_pos hi]; rfl) | simp [hi]
  · rfl
theorem swl_all {S : List Int} {n jb L : Nat} {P : Int → Prop} (hS : S.length = n) (h1 : jb < n) (h2 : L < n) (h : ∀ t, t < n → P (S[t]?.getD 0)) : ∀ t, t < n → P ((swl S jb L)[t]?.getD 0) := by
  intro t ht
  unfold swl
  rw [getD_set (by rw [List.length_set]; omega), getD_set (by omega)]
  split
  · exact h jb h1
  · split
    · exact h L h2
    · exact h t ht
theorem lom_start (f : Int → Bool) (S1 : List Int) : Lom f S1 0 0 S1 := ⟨Nat.le_refl _, by simp, fun i _ h => by omega, fun _ _ => rfl, List.Perm.refl _⟩

theorem lom_all {f : Int → Bool} {S1 D : List Int} {k j n : Nat} {P : Int → Prop} (h : Lom f S1 k j D) (hD : D.length = n) (hS : S1.length = n) (hP : ∀ t, t < n → P (S1[t]?.getD 0)) : ∀ t, t < n → P (D[t]?.getD 0) := by
  intro t ht
  have hm : D[t]?.getD 0 ∈ S1 := by
    rw [← h.2.2.2.2.mem_iff, List.getElem?_eq_getElem (by omega)]
    exact List.getElem_mem _
  obtain ⟨i, hi, e⟩ := List.getElem_of_mem hm
  have := hP i (by omega)
  rw [List.getElem?_eq_getElem hi] at this
  rw [← e]
  exact this
theorem lom_no {f : Int → Bool} {S1 D : List Int} {k j : Nat} (h : Lom f S1 k j D) (hk : k < S1.length) (hf : f (D[k]?.getD 0) = false) : Lom f S1 (k + 1) j D := by
  obtain ⟨h1, h2, h3, h4, h5⟩ := h
  have hkS : D[k]? = S1[k]? := h4 k (Nat.le_refl _)
  have hfS : f S1[k] = false := by
    rw [hkS, List.getElem?_eq_getElem hk] at hf; exact hf
  refine ⟨by omega, ?_, ?_, fun i hi => h4 i (by omega), h5⟩
  · rw [h2, List.take_succ_eq_append_getElem hk, List.filter_append]
    simp [hfS]
  · intro i hi hik
    by_cases e : i = k
    · rw [e]; exact hf
    · exact h3 i hi (by omega)
theorem swl_get {D : List Int} {i j t : Nat} (hi : i < D.length) (hj : j < D.length) : (swl D i j)[t]?.getD 0 = if j = t then D[i]?.getD 0 else if i = t then D[j]?.getD 0 else D[t]?.getD 0 := by
  unfold swl
  rw [getD_set (by rw [List.length_set]; omega), getD_set hi]
theorem swl_some {D : List Int} {i j t : Nat} (ht : t ≠ i) (ht' : t ≠ j) : (swl D i j)[t]? = D[t]? := by
  unfold swl
  rw [List.getElem?_set_ne (by omega), List.getElem?_set_ne (by omega)]
theorem ext_getD {a b : List Int} (hl : a.length = b.length) (h : ∀ t, t < a.length → a[t]?.getD 0 = b[t]?.getD 0) : a = b := by
  apply List.ext_getElem hl
  intro t h1 h2
  have := h t h1
  rw [List.getElem?_eq_getElem h1, List.getElem?_eq_getElem h2] at this
  exact this

theorem swl_perm {D : List Int} {i j : Nat} (hi : i < D.length) (hj : j < D.length) : (swl D i j).Perm D := by
  have h := Array.swap_perm (xs := D.toArray) (i := i) (j := j) (by simpa using hi) (by simpa using hj)
  have e : swl D i j = (D.toArray.swap i j (by simpa using hi) (by simpa using hj)).toList := by
    unfold swl
    rw [List.getElem?_eq_getElem hi, List.getElem?_eq_getElem hj]
    simp [Array.swap]
  rw [e]
  exact Array.perm_iff_toList_perm.1 h
theorem getD_take {l : List Int} {j t : Nat} (h : t < j) : (l.take j)[t]?.getD 0 = l[t]?.getD 0 := by rw [List.getElem?_take, if_pos h]
theorem lom_yes {f : Int → Bool} {S1 D : List Int} {k j : Nat} (h : Lom f S1 k j D) (hk : k < S1.length) (hD : D.length = S1.length) (hf : f (D[k]?.getD 0) = true) : Lom f S1 (k + 1) (j + 1) (swl D k j) := by
  obtain ⟨h1, h2, h3, h4, h5⟩ := h
  have hkS : D[k]? = S1[k]? := h4 k (Nat.le_refl _)
  have hkg : D[k]?.getD 0 = S1[k] := by rw [hkS, List.getElem?_eq_getElem hk]; rfl
  have hfS : f S1[k] = true := by rw [← hkg]; exact hf
  have hkD : k < D.length := by omega
  have hjD : j < D.length := by omega
  refine ⟨by omega, ?_, ?_, ?_, (swl_perm hkD hjD).trans h5⟩
  · rw [List.take_succ_eq_append_getElem hk, List.filter_append, ← h2]
    simp only [List.filter_cons, hfS, if_true, List.filter_nil]
    apply ext_getD
    · simp [swl_length]; omega
    · intro t ht
      have ht' : t < j + 1 := by simp [swl_length] at ht; omega
      rw [getD_take ht', swl_get hkD hjD]
      by_cases e : j = t
      · subst e
        rw [if_pos rfl, List.getElem?_append_right (by simp; omega), hkg]
        simp [Nat.min_eq_left (Nat.le_of_lt hjD)]
      · rw [if_neg e, if_neg (by omega), List.getElem?_append_left (by simp; omega), getD_take (by omega)]
  · intro i hi hik
    rw [swl_get hkD hjD, if_neg (by omega)]
    by_cases e : k = i
    · rw [if_pos e]; exact h3 j (Nat.le_refl _) (by omega)
    · rw [if_neg e]; exact h3 i (by omega) (by omega)
  · intro i hi
    rw [swl_some (by omega) (by omega)]
    exact h4 i (by omega)

set_option maxRecDepth 100000 in
set_option maxHeartbeats 2000000 in
/-- (nearness).partition. -/
theorem partition_any (vb m sb n cap B : Nat) (X : Nat → Int) (v : Int) (S : List Int) (w : World) (hm : m ≤ 65537) (hn0 : 1 ≤ n) (hn : n ≤ 65536)
    (hS : S.length = n) (hSr : ∀ t, t < n → 1 ≤ S[t]?.getD 0 ∧ S[t]?.getD 0 ≤ m) (hX : ∀ i, Sm (X i)) (hv : Sm v) (hV : Vals X vb m w)
    (hown : w.ownsRow B 3 1 (.slice (some ⟨sb, 0, none⟩) n cap) n (S.map (Value.int .i64))) (hvs : vb ≠ sb) :
    Calls Yba.prog 8 #[.agg #[.slice (some ⟨vb, 0, none⟩) m m, .float .f64 (F v)], .slice (some ⟨sb, 0, none⟩) n cap] w fun e w' => ∃ (j : Nat) (D : List Int), e = .returned (.int .i64 j) ∧ Lom (fun x => bf X v x (S[pIdx (fS X v S) n]?.getD 0)) (swl S (pIdx (fS X v S) n) (n - 1)) (n - 1) j D ∧ pIdx (fS X v S) n < n ∧ St w B sb n cap (swl D j (n - 1)) w' := by
  have hn0' : (1 : Int) ≤ n := by omega
  have hn' : (n : Int) ≤ 65536 := by omega
  obtain ⟨qa, hqa⟩ : ∃ qa : Nat, (n : Int) / 4 = qa := ⟨n / 4, by omega⟩
  obtain ⟨qb, hqb⟩ : ∃ qa : Nat, (n : Int) / 2 = qa := ⟨n / 2, by omega⟩
  obtain ⟨qc, hqc⟩ : ∃ qa : Nat, 3 * (n : Int) / 4 = qa := ⟨3 * n / 4, by omega⟩
  have Hqa : Hid (qa = n / 4) := hide (by omega)
  have Hqb : Hid (qb = n / 2) := hide (by omega)
  have Hqc : Hid (qc = 3 * n / 4) := hide (by omega)
  have ha : qa < n := by omega
  have hb : qb < n := by omega
  have hc : qc < n := by omega
  have ha' : (qa : Int) < n := by omega
  have hb' : (qb : Int) < n := by omega
  have hc' : (qc : Int) < n := by omega
  have hbW : Below w.heap.size w (w.alloc (.cells #[.slice (some ⟨vb, 0, none⟩) m m, .float .f64 (F v)] 32)) := (Below.refl _ _).alloc (Nat.le_refl _) _
  have hsb := (hown.lt _ rfl).2
  have HSr := hide hSr
  have HX := hide hX
  have Hown := hide (hown.alloc (.cells #[.slice (some ⟨vb, 0, none⟩) m m, .float .f64 (F v)] 32))
  have HV := hide (hV.below hbW)
  have HbW := hide hbW
  have hbx0 := hide (World.cell?_alloc_at (w := w) #[.slice (some ⟨vb, 0, none⟩) m m, .float .f64 (F v)] 32 w.heap.size 0 rfl)
  have hbx1 := hide (World.cell?_alloc_at (w := w) #[.slice (some ⟨vb, 0, none⟩) m m, .float .f64 (F v)] 32 w.heap.size 1 rfl)
  have HS := hide hS
  clear hSr hX hV hown hbW hS
  go_enter Yba.func8, Yba.ntmps8
  go_wp2
  clear hqa hqb hqc
  generalize w.alloc (.cells #[.slice (some ⟨vb, 0, none⟩) m m, .float .f64 (F v)] 32) = W at *
  have HR : Hid (∀ i j, i < n → j < n → Reg W w.heap.size vb m v sb i j (S[i]?.getD 0) (S[j]?.getD 0) W) := fun i j hi hj => ⟨unhide hbx0, unhide hbx1, own_cell (unhide Hown) (unhide HS) hi, own_cell (unhide Hown) (unhide HS) hj, Below.refl _ _⟩
  clear hbx0 hbx1
  go_region_held3 (fun w' => w'.cell? ⟨w.heap.size, 0, none⟩ = some (.slice (some ⟨vb, 0, none⟩) m m) ∧ w'.cell? ⟨w.heap.size, 1, none⟩ = some (.float .f64 (F v)) ∧ w'.cell? ⟨sb, qb, none⟩ = some (.int .i64 (S[qb]?.getD 0)) ∧ w'.cell? ⟨sb, qa, none⟩ = some (.int .i64 (S[qa]?.getD 0)) ∧ Below W.heap.size W w')
    (first | exact reg_drew (unhide HR _ _ hb ha) | assumption)
    (first | (go_at_call 19; refine (bf_call (X := X) _ (by assumption) (unhide HV) (unhide HX) hv hm (unhide HSr _ hb) (unhide HSr _ ha)).mono ?_; rintro e w1 ⟨rfl, hS1⟩))
  go_upto_if 33 with fail
  go_cut [6, 7] (fun a b wx => ∃ ia ib : Nat, a = .int .i64 ia ∧ b = .int .i64 ib ∧ Hid (med1 (fS X v S) qa qb = (ia, ib)) ∧ ia < n ∧ ib < n ∧ Below W.heap.size W wx)
  case first =>
    have hBl := hide hS1.2.2.2.2
    clear hS1
    go_wp2
    · go_meet
      case rel => exact ⟨qb, qa, rfl, rfl, med1_yes ‹_›, hb, ha, unhide hBl⟩
    · go_meet
      case rel => exact ⟨qa, qb, rfl, rfl, med1_no ‹_›, ha, hb, unhide hBl⟩
  case rest =>
    obtain ⟨ia, ib, rfl, rfl, hmed, hia, hib, hBl⟩ := hcut
    have hia' : (ia : Int) < n := by omega
    have hib' : (ib : Int) < n := by omega
    have HB := hide hBl
    clear hBl hS1 ha hb ha' hb'
    go_wp2
    go_region_held3 (fun w' => w'.cell? ⟨w.heap.size, 0, none⟩ = some (.slice (some ⟨vb, 0, none⟩) m m) ∧ w'.cell? ⟨w.heap.size, 1, none⟩ = some (.float .f64 (F v)) ∧ w'.cell? ⟨sb, qc, none⟩ = some (.int .i64 (S[qc]?.getD 0)) ∧ w'.cell? ⟨sb, ib, none⟩ = some (.int .i64 (S[ib]?.getD 0)) ∧ Below W.heap.size W w')
      (first | exact reg_drew ((unhide HR _ _ hc hib).below (unhide HB)) | assumption)
      (first | (go_at_call 19; refine (bf_call (X := X) _ (by assumption) (unhide HV) (unhide HX) hv hm (unhide HSr _ hc) (unhide HSr _ hib)).mono ?_; rintro e w2 ⟨rfl, hS2⟩))
    go_upto_if 45 with fail
    go_cut [7] (fun b wx => ∃ jb : Nat, b = .int .i64 jb ∧ Hid (med2 (fS X v S) ia ib qc = jb) ∧ jb < n ∧ Below W.heap.size W wx)
    case first =>
      have hBl := hide hS2.2.2.2.2
      clear hS2
      go_wp2
      · go_region_held3 (fun w' => w'.cell? ⟨w.heap.size, 0, none⟩ = some (.slice (some ⟨vb, 0, none⟩) m m) ∧ w'.cell? ⟨w.heap.size, 1, none⟩ = some (.float .f64 (F v)) ∧ w'.cell? ⟨sb, qc, none⟩ = some (.int .i64 (S[qc]?.getD 0)) ∧ w'.cell? ⟨sb, ia, none⟩ = some (.int .i64 (S[ia]?.getD 0)) ∧ Below W.heap.size W w')
          (first | exact reg_drew ((unhide HR _ _ hc hia).below (unhide hBl)) | assumption)
          (first | (go_at_call 19; refine (bf_call (X := X) _ (by assumption) (unhide HV) (unhide HX) hv hm (unhide HSr _ hc) (unhide HSr _ hia)).mono ?_; rintro e w3 ⟨rfl, hS3⟩))
        have hBl3 := hide hS3.2.2.2.2
        clear hS3
        go_wp2
        · go_meet
          case rel => exact ⟨ia, rfl, med2_a ‹_› ‹_›, hia, unhide hBl3⟩
        · go_meet
          case rel => exact ⟨qc, rfl, med2_c ‹_› ‹_›, hc, unhide hBl3⟩
      · go_meet
        case rel => exact ⟨ib, rfl, med2_no ‹_›, hib, unhide hBl⟩
    case rest =>
      obtain ⟨jb, rfl, hmed2, hjb, hBl⟩ := hcut
      have HO : Hid (St W B sb n cap S wc) := ⟨(unhide Hown).kept (below_grown hBl none) (Or.inr (by simp [Value.ownBlock])), unhide HS, below_grown hBl _⟩
      clear hBl hS2
      obtain ⟨L, hL⟩ : ∃ L : Nat, (n : Int) - 1 = L := ⟨n - 1, by omega⟩
      have HLn : Hid (L = n - 1) := hide (by omega)
      have hLn : L < n := by omega
      have hLn' : (L : Int) < n := by omega
      have hjb' : (jb : Int) < n := by omega
      have c1 := (unhide HO).cell hjb
      have c2 := (unhide HO).cell hLn
      have f1 := (unhide HO).frozen jb
      have f2 := (unhide HO).frozen L
      obtain ⟨v', hy'⟩ := cell?_setCell_some (w := wc) (p := ⟨sb, jb, none⟩) (x := .int .i64 (S[L]?.getD 0)) (q := ⟨sb, L, none⟩) (v := .int .i64 (S[L]?.getD 0)) c2
      go_upto_region 10 with fail
      go_cut [] (fun wx => St W B sb n cap (swl S jb L) wx)
      case first =>
        go_region
        go_wp2
        go_meet
        case rel => exact ((unhide HO).swap jb L).drew
      case rest =>
        have HO1 := hide hcut
        obtain ⟨S1, hS1⟩ : ∃ S1, swl S jb L = S1 := ⟨_, rfl⟩
        rw [hS1] at HO1
        have HS1 := hide hS1
        clear hcut HO c1 c2 f1 f2 hy' hS1
        have hne : w.heap.size ≠ sb := by omega
        have hbx0 := (unhide HO1).other hne (unhide HR 0 0 (by omega) (by omega)).1
        have hbx1 := (unhide HO1).other hne (unhide HR 0 0 (by omega) (by omega)).2.1
        have cL := (unhide HO1).cell hLn
        have HS1r : Hid (∀ t, t < n → 1 ≤ S1[t]?.getD 0 ∧ S1[t]?.getD 0 ≤ m) := hide (by
          rw [← unhide HS1]; exact swl_all (P := fun x => 1 ≤ x ∧ x ≤ (m : Int)) (unhide HS) hjb hLn (unhide HSr))
        obtain ⟨p, hp⟩ : ∃ p, S1[L]?.getD 0 = p := ⟨_, rfl⟩
        have hpr := unhide HS1r L hLn
        rw [hp] at cL hpr
        have Hp := hide hp
        clear hp
        go_wp2_with fail
        refine (rnd_dist (X := X) (V := wc) (bx := w.heap.size) _ ⟨hbx0, hbx1, Below.refl _ _⟩ ((unhide HO1).vals hvs (unhide HV)) (unhide HX) hv hm hpr).mono ?_
        rintro e w5 ⟨rfl, hR5⟩
        have HO5 := hide ((unhide HO1).below hR5.2.2)
        clear hR5 hbx0 hbx1 cL
        go_wp2_with fail
        go_loopw [11, 82] (fun at' i wr => ∃ (k j : Nat) (D : List Int), i = .int .i64 k ∧ at' = .int .i64 j ∧ k ≤ L ∧ Hid (St W B sb n cap D wr) ∧ Hid (Lom (fun x => bf X v x p) S1 k j D)) (fun _ i _ => L - (intOf i).toNat)
        case atStart => exact ⟨0, 0, S1, rfl, rfl, Nat.zero_le _, unhide HO5, lom_start _ _⟩
        case round =>
          obtain ⟨k, j, D, rfl, rfl, hkL, HD, HL⟩ := hrel
          clear HO5
          have hjk : j ≤ k := (unhide HL).1
          have hbx0 := (unhide HD).other hne (unhide HR 0 0 (by omega) (by omega)).1
          have hbx1 := (unhide HD).other hne (unhide HR 0 0 (by omega) (by omega)).2.1
          have hVr := hide ((unhide HD).vals hvs (unhide HV))
          by_cases hlt : k < L
          · have hkn : k < n := by omega
            have hkn' : (k : Int) < n := by omega
            have hjn : j < n := by omega
            have hjn' : (j : Int) < n := by omega
            have ck := (unhide HD).cell hkn
            have hsr := lom_all (P := fun x => 1 ≤ x ∧ x ≤ (m : Int)) (unhide HL) (unhide HD).2.1 (by rw [← unhide HS1, swl_length]; exact unhide HS) (unhide HS1r) k hkn
            obtain ⟨s, hs⟩ : ∃ s, D[k]?.getD 0 = s := ⟨_, rfl⟩
            rw [hs] at ck hsr
            have Hs := hide hs
            clear hs
            have hdec : bf X v s p = true ∨ bf X v s p = false := by cases bf X v s p <;> simp
            rcases hdec with hbf | hbf
            · go_wp2_with fail
              go_region_held3 (fun w' => w'.cell? ⟨w.heap.size, 0, none⟩ = some (.slice (some ⟨vb, 0, none⟩) m m) ∧ w'.cell? ⟨w.heap.size, 1, none⟩ = some (.float .f64 (F v)) ∧ Below wr.heap.size wr w')
                (first | exact ⟨hbx0, hbx1, (Below.refl _ _).drew⟩ | assumption)
                (first
                  | (go_at_call 20; refine (rnd_dist (X := X) _ (by assumption) (unhide hVr) (unhide HX) hv hm hsr).mono ?_; rintro e w6 ⟨rfl, hS6⟩)
                  | (go_at_call 21; refine (rnd_at (X := X) _ (by assumption) (unhide hVr) (unhide HX) hv hm hsr hpr).mono ?_; rintro e w7 ⟨rfl, hS7⟩))
              have HD7 := hide ((unhide HD).below hS7.2.2)
              clear hS6 hS7 hbx0 hbx1 ck
              have c1 := (unhide HD7).cell hkn
              have c2 := (unhide HD7).cell hjn
              have f1 := (unhide HD7).frozen k
              have f2 := (unhide HD7).frozen j
              obtain ⟨v', hy'⟩ := cell?_setCell_some (w := w7) (p := ⟨sb, k, none⟩) (x := .int .i64 (D[j]?.getD 0)) (q := ⟨sb, j, none⟩) (v := .int .i64 (D[j]?.getD 0)) c2
              go_wp2
              go_region
              go_wp2
              go_roundw
              case rel => exact ⟨k + 1, j + 1, swl D k j, by go_num, by go_num, by omega, ((unhide HD7).swap k j).drew, lom_yes (unhide HL) (by rw [← unhide HS1, swl_length, unhide HS]; exact hkn) (by rw [← unhide HS1, swl_length, unhide HS]; exact (unhide HD).2.1) (by rw [unhide Hs]; exact hbf)⟩
              case measure => simp [intOf]; omega
            · go_wp2_with fail
              go_region_held3 (fun w' => w'.cell? ⟨w.heap.size, 0, none⟩ = some (.slice (some ⟨vb, 0, none⟩) m m) ∧ w'.cell? ⟨w.heap.size, 1, none⟩ = some (.float .f64 (F v)) ∧ Below wr.heap.size wr w')
                (first | exact ⟨hbx0, hbx1, (Below.refl _ _).drew⟩ | assumption)
                (first
                  | (go_at_call 20; refine (rnd_dist (X := X) _ (by assumption) (unhide hVr) (unhide HX) hv hm hsr).mono ?_; rintro e w6 ⟨rfl, hS6⟩)
                  | (go_at_call 21; refine (rnd_at (X := X) _ (by assumption) (unhide hVr) (unhide HX) hv hm hsr hpr).mono ?_; rintro e w7 ⟨rfl, hS7⟩))
              have HD7 := hide ((unhide HD).below hS7.2.2)
              clear hS6 hS7 hbx0 hbx1 ck
              go_wp2
              go_roundw
              case rel => exact ⟨k + 1, j, D, by go_num, rfl, by omega, unhide HD7, lom_no (unhide HL) (by rw [← unhide HS1, swl_length, unhide HS]; exact hkn) (by rw [unhide Hs]; exact hbf)⟩
              case measure => simp [intOf]; omega
          · obtain rfl : k = L := by omega
            have hjn : j < n := by omega
            have hjn' : (j : Int) < n := by omega
            clear hbx0 hbx1
            have c1 := (unhide HD).cell hjn
            have c2 := (unhide HD).cell hLn
            have f1 := (unhide HD).frozen j
            have f2 := (unhide HD).frozen k
            obtain ⟨v', hy'⟩ := cell?_setCell_some (w := wr) (p := ⟨sb, j, none⟩) (x := .int .i64 (D[k]?.getD 0)) (q := ⟨sb, k, none⟩) (v := .int .i64 (D[k]?.getD 0)) c2
            go_wp2
            go_region
            go_wp2
            go_ret
            refine ⟨j, D, rfl, ?_, ?_, ?_⟩
            · have hpi : pIdx (fS X v S) n = jb := by
                unfold pIdx; rw [← unhide Hqa, ← unhide Hqb, ← unhide Hqc, unhide hmed]; exact unhide hmed2
              have hpv : S[jb]?.getD 0 = p := by
                rw [← unhide Hp, ← unhide HS1, swl_get (by rw [unhide HS]; exact hjb) (by rw [unhide HS]; exact hLn), if_pos rfl]
              rw [hpi, hpv, ← unhide HLn, unhide HS1]
              exact unhide HL
            · unfold pIdx; rw [← unhide Hqa, ← unhide Hqb, ← unhide Hqc, unhide hmed]; show med2 _ ia ib qc < n; rw [unhide hmed2]; exact hjb
            · rw [← unhide HLn]
              have hf := ((unhide HD).swap j k).drew
              exact ⟨hf.1, hf.2.1, grown_trans (below_grown (unhide HbW) _) hf.2.2⟩
end Go.Proofs.Ybulkdzjs.A

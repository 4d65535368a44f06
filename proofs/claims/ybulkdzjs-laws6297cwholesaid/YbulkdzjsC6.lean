/- 6297C: the rows that the law builds, and how each store turns them. -/
import Derived.Test.YbulkdzjsC5
namespace Go.Proofs.Ybulkdzjs.A
open Go.RowKit Flt

/-- A row of cells of the call's own: what each holds; none is frozen. -/
def Rw (w : World) (b n : Nat) (V : Nat → Value) : Prop := ∀ i, i < n → w.cell? ⟨b, i, none⟩ = some (V i) ∧ w.frozen? ⟨b, i, none⟩ = false
section
variable {w w' : World} {b n : Nat} {V : Nat → Value}
theorem Rw.lt (h : Rw w b n V) (hn : 0 < n) : b < w.heap.size := World.block_lt_of_cell? _ _ (h 0 hn).1
theorem Rw.congr {V' : Nat → Value} (h : Rw w b n V) (e : ∀ i, i < n → V i = V' i) : Rw w b n V' := fun i hi => ⟨by rw [← e i hi]; exact (h i hi).1, (h i hi).2⟩
theorem Rw.grown {row : Option Nat} (h : Rw w b n V) (hg : w.grownBy w' row) (hb : some b ≠ row) : Rw w' b n V := fun i hi => by
  have hlt := World.block_lt_of_cell? _ _ (h i hi).1
  exact ⟨(World.cell?_of_block (hg.block b hlt hb)).trans (h i hi).1, (World.frozen?_of_block (hg.block b hlt hb)).trans (h i hi).2⟩
theorem Rw.below (h : Rw w b n V) (hb : Below w.heap.size w w') : Rw w' b n V := h.grown (below_grown hb none) (by simp)
theorem Rw.set (h : Rw w b n V) (k : Nat) (_hk : k < n) (u : Value) : Rw (w.setCell ⟨b, k, none⟩ u) b n (fun i => if i = k then u else V i) := fun i hi => by
  refine ⟨?_, ?_⟩
  · show _ = some (if i = k then u else V i)
    by_cases e : i = k
    · subst e; rw [if_pos rfl]; exact World.cell?_setCell_same w _ _ (h i hi).1
    · rw [if_neg e, World.cell?_setCell_other w _ _ _ (by intro e'; injection e' with _ e2; exact e e2.symm)]; exact (h i hi).1
  · exact (World.frozen?_setCell w _ _ _).trans (h i hi).2
theorem Rw.other (h : Rw w b n V) {b' : Nat} (hb : b ≠ b') (k : Nat) (u : Value) : Rw (w.setCell ⟨b', k, none⟩ u) b n V := fun i hi => by
  refine ⟨?_, ?_⟩
  · rw [World.cell?_setCell_other w _ _ _ (by intro e'; injection e' with e1 _; exact hb e1.symm)]; exact (h i hi).1
  · exact (World.frozen?_setCell w _ _ _).trans (h i hi).2
theorem Rw.made (w : World) (z : Value) (T : TypeId) (n : Nat) (hz : z.cells = #[z]) : Rw (w.alloc (.cells (madeCells z.cells n) T)) w.heap.size n (fun _ => z) := fun i hi => by
  have h : (madeCells z.cells n)[i]? = some z := by rw [hz]; simp [madeCells, hi, Nat.mod_one]
  exact ⟨(World.cell?_alloc_at (w := w) _ T _ i rfl).trans h, World.frozen?_alloc_at (w := w) _ T _ i rfl⟩
end
/-- Two cells an entry. -/
def ev (c : Nat → Nat) (k : Nat) : Value := if k % 2 = 0 then .float .f64 (wd (c (k / 2))) else .bool (vd (c (k / 2)))
theorem Rw.ent {w : World} {b n i : Nat} {c : Nat → Nat} (h : Rw w b (n * 2) (ev c)) (hi : i < n) :
    (w.cell? ⟨b, i * 2, none⟩ = some (.float .f64 (wd (c i))) ∧ w.frozen? ⟨b, i * 2, none⟩ = false) ∧ (w.cell? ⟨b, i * 2 + 1, none⟩ = some (.bool (vd (c i))) ∧ w.frozen? ⟨b, i * 2 + 1, none⟩ = false) := by
  have h1 := h (i * 2) (by omega)
  have h2 := h (i * 2 + 1) (by omega)
  rw [ev, if_pos (by omega), show i * 2 / 2 = i by omega] at h1
  rw [ev, if_neg (by omega), show (i * 2 + 1) / 2 = i by omega] at h2
  exact ⟨h1, h2⟩
theorem Rw.setE {w : World} {b n i c0 : Nat} {c : Nat → Nat} (h : Rw w b (n * 2) (ev c)) (hi : i < n) :
    Rw ((w.setCell ⟨b, i * 2, none⟩ (.float .f64 (wd c0))).setCell ⟨b, i * 2 + 1, none⟩ (.bool (vd c0))) b (n * 2) (ev (fun k => if k = i then c0 else c k)) := by
  refine ((h.set (i * 2) (by omega) _).set (i * 2 + 1) (by omega) _).congr (fun k hk => ?_)
  unfold ev
  by_cases e1 : k = i * 2 + 1
  · subst e1
    rw [if_pos rfl, if_neg (by omega)]
    show _ = Value.bool (vd (if (i * 2 + 1) / 2 = i then c0 else c ((i * 2 + 1) / 2)))
    rw [if_pos (by omega)]
  · rw [if_neg e1]
    by_cases e2 : k = i * 2
    · subst e2
      rw [if_pos rfl, if_pos (by omega)]
      show _ = Value.float .f64 (wd (if i * 2 / 2 = i then c0 else c (i * 2 / 2)))
      rw [if_pos (by omega)]
    · rw [if_neg e2]
      show _ = if k % 2 = 0 then Value.float .f64 (wd (if k / 2 = i then c0 else c (k / 2))) else Value.bool (vd (if k / 2 = i then c0 else c (k / 2)))
      rw [if_neg (show k / 2 ≠ i by omega)]
theorem Rw.madeE (w : World) (T : TypeId) (n : Nat) : Rw (w.alloc (.cells (madeCells #[.float .f64 0, .bool false] (n * 2)) T)) w.heap.size (n * 2) (ev (fun _ => 0)) := fun i hi => by
  have h : (madeCells #[.float .f64 0, .bool false] (n * 2))[i]? = some (ev (fun _ => 0) i) := by
    unfold ev madeCells
    rw [Array.getElem?_map, Array.getElem?_range, if_pos hi]
    rcases Nat.mod_two_eq_zero_or_one i with e | e <;> simp [e, wd, vd]
  exact ⟨(World.cell?_alloc_at (w := w) _ T _ i rfl).trans h, World.frozen?_alloc_at (w := w) _ T _ i rfl⟩
/-- The first a of v; zeros behind. -/
def pr {α : Type} (a : Nat) (v : Nat → α) (z : α) (k : Nat) : α := if k < a then v k else z
theorem pr_set {α : Type} (a : Nat) (v : Nat → α) (z : α) (k : Nat) : (if k = a then v a else pr a v z k) = pr (a + 1) v z k := by
  unfold pr
  by_cases e : k = a
  · subst e; rw [if_pos rfl, if_pos (by omega)]
  · rw [if_neg e]
    by_cases h : k < a
    · rw [if_pos h, if_pos (by omega)]
    · rw [if_neg h, if_neg (by omega)]
theorem pr_keep {α : Type} (a : Nat) (v : Nat → α) (z : α) (h : v a = z) : pr (a + 1) v z = pr a v z := by
  funext k
  rw [← pr_set]
  by_cases e : k = a
  · subst e; rw [if_pos rfl, h, pr, if_neg (by omega)]
  · rw [if_neg e]
theorem pr_at {α : Type} {a : Nat} {v : Nat → α} {z : α} {k : Nat} (h : k < a) : pr a v z k = v k := if_pos h
theorem pr_zero {α : Type} {v : Nat → α} {z : α} : pr 0 v z = fun _ => z := by funext k; exact if_neg (by omega)
theorem pr_end {α : Type} {a : Nat} {v : Nat → α} {z : α} {k : Nat} (h : a ≤ k) : pr a v z k = z := if_neg (by omega)

/-- Where the rows lie: the codes (entries, vectors' rows, confessions), then the node's. -/
structure Ab where
  (ce cv cf eb vb fb : Nat) (rc rb : Nat → Nat)
/-- A row's value. -/
def slc (nn : Nat → Bool) (r : Nat → Nat) (n k : Nat) : Value := if nn k then .slice (some ⟨r k, 0, none⟩) n n else .slice none 0 0
/-- All the law's own; the rows behind the six. -/
structure Sep (D : Ab) (b0 : Nat) : Prop where
  h0 : b0 ≤ D.ce
  h1 : D.ce < D.cv
  h2 : D.cv < D.cf
  h3 : D.cf < D.eb
  h4 : D.eb < D.vb
  h5 : D.vb < D.fb
  h6 : ∀ k, D.fb < D.rc k
  h7 : ∀ k, D.fb < D.rb k
/-- The six rows, each with its own progress; the vectors' rows. -/
structure Bd (D : Ab) (N : Nd) (a1 a2 a3 a4 a5 : Nat) (w0 w : World) : Prop where
  e : Rw w D.ce N.n (fun k => .int .u8 (pr a1 N.ec 0 k : Nat))
  x : Rw w D.eb (N.n * 2) (ev (pr a2 N.ec 0))
  f : Rw w D.cf N.n (fun k => .bool (pr a3 N.cf false k))
  g : Rw w D.fb N.n (fun k => .bool (pr a4 N.cf false k))
  v : Rw w D.cv N.n (pr a5 (slc N.nn D.rc N.n) (.slice none 0 0))
  u : Rw w D.vb N.n (pr a5 (slc N.nn D.rb N.n) (.slice none 0 0))
  r : ∀ k, k < a5 → N.nn k = true → Rw w (D.rc k) N.n (fun m => .int .u8 (N.vc k m : Nat)) ∧ Rw w (D.rb k) (N.n * 2) (ev (N.vc k))
  b : Below w0.heap.size w0 w
  s : Sep D w0.heap.size
section
variable {D : Ab} {N : Nd} {a1 a2 a3 a4 a5 : Nat} {w0 w w' : World}
theorem Bd.below (h : Bd D N a1 a2 a3 a4 a5 w0 w) (hb : Below w.heap.size w w') : Bd D N a1 a2 a3 a4 a5 w0 w' :=
  ⟨h.e.below hb, h.x.below hb, h.f.below hb, h.g.below hb, h.v.below hb, h.u.below hb, fun k hk hn => ⟨(h.r k hk hn).1.below hb, (h.r k hk hn).2.below hb⟩, h.b.trans (hb.mono h.b.size), h.s⟩
theorem Bd.setE (h : Bd D N a1 a2 a3 a4 a5 w0 w) (hi : a1 < N.n) : Bd D N (a1 + 1) a2 a3 a4 a5 w0 (w.setCell ⟨D.ce, a1, none⟩ (.int .u8 (N.ec a1))) := by
  obtain ⟨h0, h1, h2, h3, h4, h5, h6, h7⟩ := h.s
  exact ⟨(h.e.set a1 hi _).congr (fun k _ => by rw [← pr_set]; split <;> rfl), h.x.other (by omega) _ _, h.f.other (by omega) _ _, h.g.other (by omega) _ _, h.v.other (by omega) _ _, h.u.other (by omega) _ _,
    fun k hk hn => ⟨(h.r k hk hn).1.other (by have := h6 k; omega) _ _, (h.r k hk hn).2.other (by have := h7 k; omega) _ _⟩, h.b.setCell h0 _, h.s⟩
theorem Bd.keepE (h : Bd D N a1 a2 a3 a4 a5 w0 w) (hz : N.ec a1 = 0) : Bd D N (a1 + 1) a2 a3 a4 a5 w0 w :=
  { h with e := by rw [pr_keep _ _ _ hz]; exact h.e }
theorem Bd.setX (h : Bd D N a1 a2 a3 a4 a5 w0 w) (hi : a2 < N.n) : Bd D N a1 (a2 + 1) a3 a4 a5 w0 ((w.setCell ⟨D.eb, a2 * 2, none⟩ (.float .f64 (wd (N.ec a2)))).setCell ⟨D.eb, a2 * 2 + 1, none⟩ (.bool (vd (N.ec a2)))) := by
  obtain ⟨h0, h1, h2, h3, h4, h5, h6, h7⟩ := h.s
  exact ⟨(h.e.other (by omega) _ _).other (by omega) _ _, (h.x.setE (c0 := N.ec a2) hi).congr (fun k _ => by rw [show (fun k => if k = a2 then N.ec a2 else pr a2 N.ec 0 k) = pr (a2 + 1) N.ec 0 from funext (pr_set a2 N.ec 0)]), (h.f.other (by omega) _ _).other (by omega) _ _, (h.g.other (by omega) _ _).other (by omega) _ _, (h.v.other (by omega) _ _).other (by omega) _ _, (h.u.other (by omega) _ _).other (by omega) _ _,
    fun k hk hn => ⟨((h.r k hk hn).1.other (by have := h6 k; omega) _ _).other (by have := h6 k; omega) _ _, ((h.r k hk hn).2.other (by have := h7 k; omega) _ _).other (by have := h7 k; omega) _ _⟩, (h.b.setCell (show _ ≤ D.eb by omega) _).setCell (show _ ≤ D.eb by omega) _, h.s⟩
theorem Bd.setF (h : Bd D N a1 a2 a3 a4 a5 w0 w) (hi : a3 < N.n) : Bd D N a1 a2 (a3 + 1) a4 a5 w0 (w.setCell ⟨D.cf, a3, none⟩ (.bool (N.cf a3))) := by
  obtain ⟨h0, h1, h2, h3, h4, h5, h6, h7⟩ := h.s
  exact ⟨h.e.other (by omega) _ _, h.x.other (by omega) _ _, (h.f.set a3 hi _).congr (fun k _ => by rw [← pr_set]; split <;> rfl), h.g.other (by omega) _ _, h.v.other (by omega) _ _, h.u.other (by omega) _ _,
    fun k hk hn => ⟨(h.r k hk hn).1.other (by have := h6 k; omega) _ _, (h.r k hk hn).2.other (by have := h7 k; omega) _ _⟩, h.b.setCell (show _ ≤ D.cf by omega) _, h.s⟩
theorem Bd.keepF (h : Bd D N a1 a2 a3 a4 a5 w0 w) (hz : N.cf a3 = false) : Bd D N a1 a2 (a3 + 1) a4 a5 w0 w :=
  { h with f := by rw [pr_keep _ _ _ hz]; exact h.f }
theorem Bd.setG (h : Bd D N a1 a2 a3 a4 a5 w0 w) (hi : a4 < N.n) : Bd D N a1 a2 a3 (a4 + 1) a5 w0 (w.setCell ⟨D.fb, a4, none⟩ (.bool (N.cf a4))) := by
  obtain ⟨h0, h1, h2, h3, h4, h5, h6, h7⟩ := h.s
  exact ⟨h.e.other (by omega) _ _, h.x.other (by omega) _ _, h.f.other (by omega) _ _, (h.g.set a4 hi _).congr (fun k _ => by rw [← pr_set]; split <;> rfl), h.v.other (by omega) _ _, h.u.other (by omega) _ _,
    fun k hk hn => ⟨(h.r k hk hn).1.other (by have := h6 k; omega) _ _, (h.r k hk hn).2.other (by have := h7 k; omega) _ _⟩, h.b.setCell (show _ ≤ D.fb by omega) _, h.s⟩
theorem Bd.keepV (h : Bd D N a1 a2 a3 a4 a5 w0 w) (hz : N.nn a5 = false) : Bd D N a1 a2 a3 a4 (a5 + 1) w0 w :=
  { h with
    v := by rw [pr_keep _ _ _ (by rw [slc, hz]; rfl)]; exact h.v
    u := by rw [pr_keep _ _ _ (by rw [slc, hz]; rfl)]; exact h.u
    r := fun k hk hn => by
      rcases Nat.lt_or_ge k a5 with h' | h'
      · exact h.r k h' hn
      · obtain rfl : k = a5 := by omega
        rw [hz] at hn; cases hn }
/-- A vector's rows are hung in. -/
def Ab.row (D : Ab) (i r q : Nat) : Ab := { D with rc := fun k => if k = i then r else D.rc k, rb := fun k => if k = i then q else D.rb k }
theorem pr_upd {nn : Nat → Bool} {r : Nat → Nat} {n i q : Nat} (k : Nat) : pr i (slc nn (fun k => if k = i then q else r k) n) (.slice none 0 0) k = pr i (slc nn r n) (.slice none 0 0) k := by
  unfold pr
  by_cases h : k < i
  · rw [if_pos h, if_pos h]
    show (if nn k = true then Value.slice (some ⟨if k = i then q else r k, 0, none⟩) n n else _) = _
    rw [if_neg (show k ≠ i by omega)]
    rfl
  · rw [if_neg h, if_neg h]
theorem Bd.setV (h : Bd D N a1 a2 a3 a4 a5 w0 w) (hi : a5 < N.n) (hz : N.nn a5 = true) {r q : Nat} (h1 : Rw w r N.n (fun m => .int .u8 (N.vc a5 m : Nat))) (h2 : Rw w q (N.n * 2) (ev (N.vc a5))) (hr : D.fb < r) (hq : D.fb < q) :
    Bd (D.row a5 r q) N a1 a2 a3 a4 (a5 + 1) w0 ((w.setCell ⟨D.cv, a5, none⟩ (.slice (some ⟨r, 0, none⟩) N.n N.n)).setCell ⟨D.vb, a5, none⟩ (.slice (some ⟨q, 0, none⟩) N.n N.n)) := by
  obtain ⟨s0, s1, s2, s3, s4, s5, s6, s7⟩ := h.s
  refine ⟨(h.e.other (show D.ce ≠ D.cv by omega) _ _).other (show D.ce ≠ D.vb by omega) _ _, (h.x.other (show D.eb ≠ D.cv by omega) _ _).other (show D.eb ≠ D.vb by omega) _ _, (h.f.other (show D.cf ≠ D.cv by omega) _ _).other (show D.cf ≠ D.vb by omega) _ _, (h.g.other (show D.fb ≠ D.cv by omega) _ _).other (show D.fb ≠ D.vb by omega) _ _, ?_, ?_, ?_, (h.b.setCell (show _ ≤ D.cv by omega) _).setCell (show _ ≤ D.vb by omega) _, ⟨s0, s1, s2, s3, s4, s5, fun k => ?_, fun k => ?_⟩⟩
  · refine ((h.v.set a5 hi _).other (show D.cv ≠ D.vb by omega) _ _).congr (fun k _ => ?_)
    show _ = pr (a5 + 1) (slc N.nn (fun k => if k = a5 then r else D.rc k) N.n) _ k
    rw [← pr_set]
    by_cases e : k = a5
    · rw [if_pos e, if_pos e, slc, hz, if_pos rfl, if_pos rfl]
    · rw [if_neg e, if_neg e, pr_upd]
  · refine ((h.u.other (show D.vb ≠ D.cv by omega) _ _).set a5 hi _).congr (fun k _ => ?_)
    show _ = pr (a5 + 1) (slc N.nn (fun k => if k = a5 then q else D.rb k) N.n) _ k
    rw [← pr_set]
    by_cases e : k = a5
    · rw [if_pos e, if_pos e, slc, hz, if_pos rfl, if_pos rfl]
    · rw [if_neg e, if_neg e, pr_upd]
  · intro k hk hn
    show Rw _ (if k = a5 then r else D.rc k) _ _ ∧ Rw _ (if k = a5 then q else D.rb k) _ _
    by_cases e : k = a5
    · subst e
      rw [if_pos rfl, if_pos rfl]
      exact ⟨(h1.other (show r ≠ D.cv by omega) _ _).other (show r ≠ D.vb by omega) _ _, (h2.other (show q ≠ D.cv by omega) _ _).other (show q ≠ D.vb by omega) _ _⟩
    · rw [if_neg e, if_neg e]
      have b1 := s6 k
      have b2 := s7 k
      obtain ⟨q1, q2⟩ := h.r k (by omega) hn
      exact ⟨(q1.other (show D.rc k ≠ D.cv by omega) _ _).other (show D.rc k ≠ D.vb by omega) _ _, (q2.other (show D.rb k ≠ D.cv by omega) _ _).other (show D.rb k ≠ D.vb by omega) _ _⟩
  · show D.fb < (if k = a5 then r else D.rc k)
    split
    · exact hr
    · exact s6 k
  · show D.fb < (if k = a5 then q else D.rb k)
    split
    · exact hq
    · exact s7 k
end
end Go.Proofs.Ybulkdzjs.A

/- 6297C: 'make' of the law's rows; what stands behind the call. -/
import Derived.Test.YbulkdzjsC4
import Derived.Test.YbulkdzjsC6
namespace Go.Proofs.Ybulkdzjs.A
open Go.RowKit Flt

theorem wpList_make_rw {P : Program} (w : World) {ops : Array Oper} {rest : List Oper} {o : Oper} {a : Act} {Q : Exit → Act → World → Prop}
    (hg : o.guard = none) (l : Operand) (t : TypeId) (hop : o.op = Op.makeSlice t l l) (e : TypeId) (i : TypeInfo) (z : Value) (h1 : P.underlying t = some (.slice e)) (h2 : P.info? e = some i) (h3 : i.zero = some z) (h4 : i.size = 1) (hz : z.cells = #[z])
    (n : Nat) (hl : a.eval l = .int .i64 (n : Int)) (b2 : i.bytes * n ≤ 281474976710656) (b3 : n ≤ 1000000)
    (hK : ∀ w', Rw w' w.heap.size n (fun _ => z) → Below w.heap.size w w' → w.heap.size < w'.heap.size → wpList P ops Q rest (a.put o.dst (.slice (some ⟨w.heap.size, 0, none⟩) n n)) w') :
    wpList P ops Q (o :: rest) a w := by
  refine wpList_plain hg fun K hK' => ?_
  have hb : (i.bytes : Int) * (n : Int) ≤ 281474976710656 := by rw [← Int.natCast_mul]; exact Int.ofNat_le.mpr b2
  have hrun := run_make (P := P) w t e i z h1 h2 h3 .i64 .i64 (n : Int) (n : Int) (by omega) (Int.le_refl _) hb (by omega)
  unfold Oper.wp
  simp only [Int.toNat_natCast, h4, Nat.mul_one] at hrun
  simp [execOp, hop, hl, hrun, Result.andThen]
  exact hK' _ _ (hK _ (Rw.made w z e n hz) ((Below.refl _ _).alloc (Nat.le_refl _) _) (by simp))
theorem wpList_make_rwE {P : Program} (w : World) {ops : Array Oper} {rest : List Oper} {o : Oper} {a : Act} {Q : Exit → Act → World → Prop}
    (hg : o.guard = none) (l : Operand) (t : TypeId) (hop : o.op = Op.makeSlice t l l) (e : TypeId) (i : TypeInfo) (z : Value) (h1 : P.underlying t = some (.slice e)) (h2 : P.info? e = some i) (h3 : i.zero = some z) (h4 : i.size = 2) (hz : z.cells = #[.float .f64 0, .bool false])
    (n : Nat) (hl : a.eval l = .int .i64 (n : Int)) (b2 : i.bytes * n ≤ 281474976710656) (b3 : n ≤ 1000000)
    (hK : ∀ w', Rw w' w.heap.size (n * 2) (ev (fun _ => 0)) → Below w.heap.size w w' → w.heap.size < w'.heap.size → wpList P ops Q rest (a.put o.dst (.slice (some ⟨w.heap.size, 0, none⟩) n n)) w') :
    wpList P ops Q (o :: rest) a w := by
  refine wpList_plain hg fun K hK' => ?_
  have hb : (i.bytes : Int) * (n : Int) ≤ 281474976710656 := by rw [← Int.natCast_mul]; exact Int.ofNat_le.mpr b2
  have hrun := run_make (P := P) w t e i z h1 h2 h3 .i64 .i64 (n : Int) (n : Int) (by omega) (Int.le_refl _) hb (by omega)
  unfold Oper.wp
  simp only [Int.toNat_natCast, h4, hz] at hrun
  simp [execOp, hop, hl, hrun, Result.andThen]
  exact hK' _ _ (hK _ (Rw.madeE w e n) ((Below.refl _ _).alloc (Nat.le_refl _) _) (by simp))
theorem Yba.info5 : (Yba.prog.info? 5).map (fun i => (i.zero, i.size, i.bytes)) = some (some (.int .u8 0), 1, 1) := by kernel_rfl
theorem Yba.info63 : (Yba.prog.info? 63).map (fun i => (i.zero, i.size, i.bytes)) = some (some (.slice none 0 0), 1, 24) := by kernel_rfl
theorem Yba.info46 : (Yba.prog.info? 46).map (fun i => (i.zero, i.size, i.bytes)) = some (some (.int .u64 0), 1, 8) := by kernel_rfl
theorem Yba.info66 : (Yba.prog.info? 66).map (fun i => (i.zero, i.size, i.bytes)) = some (some (.slice none 0 0), 1, 24) := by kernel_rfl
theorem Yba.info4 : (Yba.prog.info? 4).map (fun i => (i.zero, i.size, i.bytes)) = some (some (.bool false), 1, 1) := by kernel_rfl
theorem Yba.info69 : (Yba.prog.info? 69).map (fun i => (i.zero, i.size, i.bytes)) = some (some (.agg #[.float .f64 0, .bool false]), 2, 16) := by kernel_rfl

/-- What the law reads behind the call: the node and the codes. -/
structure Sd (A : At) (D : Ab) (N : Nd) (w : World) : Prop where
  cc : CCw A N w
  e : ∀ i, i < N.n → w.cell? ⟨D.ce, i, none⟩ = some (.int .u8 (N.ec i))
  f : ∀ i, i < N.n → w.cell? ⟨D.cf, i, none⟩ = some (.bool (N.cf i))
  v : ∀ i, i < N.n → w.cell? ⟨D.cv, i, none⟩ = some (slc N.nn D.rc N.n i)
  r : ∀ i, i < N.n → N.nn i = true → ∀ m, m < N.n → w.cell? ⟨D.rc i, m, none⟩ = some (.int .u8 (N.vc i m))
section
variable {A : At} {D : Ab} {N : Nd} {w w' w0 : World}
theorem lt_of {b o : Nat} {v : Value} (h : w.cell? ⟨b, o, none⟩ = some v) : b < w.heap.size := World.block_lt_of_cell? _ _ h
theorem bcell (hb : Below w.heap.size w w') {b o : Nat} {v : Value} (h : w.cell? ⟨b, o, none⟩ = some v) : w'.cell? ⟨b, o, none⟩ = some v := below_cell hb (lt_of h) h
theorem CCw.below (h : CCw A N w) (hb : Below w.heap.size w w') : CCw A N w' :=
  ⟨bcell hb h.n0, bcell hb h.s7, bcell hb h.f8, bcell hb h.r9, bcell hb h.c10, bcell hb h.g11, bcell hb h.e12, bcell hb h.v13, bcell hb h.c14, fun i hi => ⟨bcell hb (h.en i hi).1, bcell hb (h.en i hi).2⟩, fun i hi => bcell hb (h.co i hi), fun i hi => bcell hb (h.ve i hi),
    fun i hi hn m hm => ⟨bcell hb (h.ro i hi hn m hm).1, bcell hb (h.ro i hi hn m hm).2⟩⟩
theorem Sd.below (h : Sd A D N w) (hb : Below w.heap.size w w') : Sd A D N w' :=
  ⟨h.cc.below hb, fun i hi => bcell hb (h.e i hi), fun i hi => bcell hb (h.f i hi), fun i hi => bcell hb (h.v i hi), fun i hi hn m hm => bcell hb (h.r i hi hn m hm)⟩
end
theorem Sd.kp {A : At} {D : Ab} {N : Nd} {W w : World} (h : Sd A D N W) (k : Kp A.cb W w) (d : Dj A N) (h1 : D.ce ≠ A.cb) (h2 : D.cf ≠ A.cb) (h3 : D.cv ≠ A.cb) (h4 : ∀ i, i < N.n → N.nn i = true → D.rc i ≠ A.cb) : Sd A D N w :=
  ⟨h.cc.kp k d, fun i hi => k.1.cell (h.e i hi) (by simpa using h1), fun i hi => k.1.cell (h.f i hi) (by simpa using h2), fun i hi => k.1.cell (h.v i hi) (by simpa using h3), fun i hi hn m hm => k.1.cell (h.r i hi hn m hm) (by simpa using h4 i hi hn)⟩
/-- The node is laid. -/
theorem sd_mk {D : Ab} {N : Nd} {w0 w : World} (h : Bd D N N.n N.n N.n N.n N.n w0 w) (v1 v2 v3 v4 v5 v6 v15 v16 : Value) :
    Sd ⟨w.heap.size, D.eb, D.vb, D.fb, D.rb⟩ D N (w.alloc (.cells #[.int .i64 N.n, v1, v2, v3, v4, v5, v6, .int .i64 N.self, .int .i64 N.f, .int .i64 2, .bool N.cu, .bool N.fo, .slice (some ⟨D.eb, 0, none⟩) N.n N.n, .slice (some ⟨D.vb, 0, none⟩) N.n N.n, .slice (some ⟨D.fb, 0, none⟩) N.n N.n, v15, v16] 78)) := by
  generalize hcs : #[.int .i64 N.n, v1, v2, v3, v4, v5, v6, .int .i64 N.self, .int .i64 N.f, .int .i64 2, .bool N.cu, .bool N.fo, .slice (some ⟨D.eb, 0, none⟩) N.n N.n, .slice (some ⟨D.vb, 0, none⟩) N.n N.n, .slice (some ⟨D.fb, 0, none⟩) N.n N.n, v15, v16] = cs
  have g := h.below (w' := w.alloc (.cells cs 78)) ((Below.refl _ _).alloc (Nat.le_refl _) _)
  have at' : ∀ k, (w.alloc (.cells cs 78)).cell? ⟨w.heap.size, k, none⟩ = cs[k]? := fun k => World.cell?_alloc_at (w := w) _ 78 _ k rfl
  subst hcs
  refine ⟨⟨at' 0, at' 7, at' 8, at' 9, at' 10, at' 11, at' 12, at' 13, at' 14, fun i hi => ?_, fun i hi => ?_, fun i hi => ?_, fun i hi hn m hm => ?_⟩, fun i hi => ?_, fun i hi => ?_, fun i hi => ?_, fun i hi hn m hm => ((g.r i hi hn).1 m hm).1⟩
  · obtain ⟨⟨a, _⟩, b, _⟩ := g.x.ent hi
    rw [pr_at hi] at a b
    exact ⟨a, b⟩
  · exact ((g.g i hi).1).trans (by simp only [pr_at hi])
  · exact ((g.u i hi).1).trans (by rw [pr_at hi]; rfl)
  · obtain ⟨⟨a, _⟩, b, _⟩ := (g.r i hi hn).2.ent hm
    exact ⟨a, b⟩
  · exact ((g.e i hi).1).trans (by simp only [pr_at hi])
  · exact ((g.f i hi).1).trans (by simp only [pr_at hi])
  · exact ((g.v i hi).1).trans (by rw [pr_at hi])
/-- 'got' in block gb, 'want' in block wb; nothing of W has turned. -/
def Dy (W : World) (gb wb c1 c2 : Nat) (w : World) : Prop := Below W.heap.size W w ∧ Pr gb (wd c1) (vd c1) w ∧ Pr wb (wd c2) (vd c2) w ∧ W.heap.size ≤ gb ∧ W.heap.size ≤ wb ∧ gb ≠ wb
theorem Dy.below {W w w' : World} {gb wb c1 c2 : Nat} (h : Dy W gb wb c1 c2 w) (hb : Below w.heap.size w w') : Dy W gb wb c1 c2 w' :=
  ⟨h.1.trans (hb.mono h.1.size), h.2.1.grown (below_grown hb none) (by simp), h.2.2.1.grown (below_grown hb none) (by simp), h.2.2.2⟩
theorem Dy.put {W w : World} {gb wb c1 c2 : Nat} (h : Dy W gb wb c1 c2 w) (c : Nat) : Dy W gb wb c1 c ((w.setCell ⟨wb, 0, none⟩ (.float .f64 (wd c))).setCell ⟨wb, 1, none⟩ (.bool (vd c))) := by
  obtain ⟨h1, h2, h3, h4, h5, h6⟩ := h
  exact ⟨(h1.setCell h5 _).setCell h5 _, h2.other h6, h3.put, h4, h5, h6⟩
end Go.Proofs.Ybulkdzjs.A

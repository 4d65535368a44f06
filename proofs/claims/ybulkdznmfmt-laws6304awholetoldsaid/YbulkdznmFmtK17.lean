/- 6304A: rows of bytes that grow; names, be, slices.Clone, slices.Equal. -/
import Derived.Test.YbulkdznmFmtK12c
import Derived.Lib.AppendStr
namespace Go.Proofs.YbulkdznmFmt.A
open Go.RowKit

/-- A byte's value. -/
def isB (u : Value) : Prop := ∃ z : Int, u = .int .u8 z ∧ 0 ≤ z ∧ z < 256
theorem isB_of (b : UInt8) : isB (.int .u8 b.toNat) := ⟨_, rfl, by omega, by have := b.toNat_lt; omega⟩
/-- A row of n bytes of the call's own. -/
def BR (w : World) (base : Nat) (v : Value) (n : Nat) : Prop := ∃ xs, w.ownsRow base 5 1 v n xs ∧ ∀ u ∈ xs, isB u
/-- n bytes from place o of block b on. -/
def Bs (w : World) (b o n : Nat) : Prop := ∀ m, m < n → ∃ z : Int, w.cell? ⟨b, o + m, none⟩ = some (.int .u8 z) ∧ 0 ≤ z ∧ z < 256
theorem isB_one {u : Value} (h : isB u) : u.oneCell' = true := by obtain ⟨z, rfl, _⟩ := h; rfl
theorem By.bs {w : World} {b o n : Nat} {f : Nat → UInt8} (h : By w b o n f) : Bs w b o n := fun m hm => ⟨_, h m hm, by omega, by have := (f m).toNat_lt; omega⟩
theorem Bs.grown {w w' : World} {b o n : Nat} {row : Option Nat} (h : Bs w b o n) (hg : w.grownBy w' row) (hb : some b ≠ row) : Bs w' b o n := fun m hm => by
  obtain ⟨z, h1, h2⟩ := h m hm
  exact ⟨z, hg.cell h1 hb, h2⟩
theorem Bs.below {w w' : World} {b o n : Nat} {B : Nat} {w0 : World} (h : Bs w0 b o n) (hb : Below B w0 w') (hlt : b < B) (_w : w = w') : Bs w' b o n := fun m hm => by
  obtain ⟨z, h1, h2⟩ := h m hm
  exact ⟨z, below_cell hb hlt h1, h2⟩
theorem BR.kept {w w' : World} {base n : Nat} {v : Value} {row : Option Nat} (h : BR w base v n) (hg : w.grownBy w' row) (hne : v.ownBlock = none ∨ v.ownBlock ≠ row) : BR w' base v n := by
  obtain ⟨xs, h1, h2⟩ := h
  exact ⟨xs, h1.kept hg hne, h2⟩
theorem BR.lt {w : World} {base n : Nat} {v : Value} (h : BR w base v n) : ∀ k, v.ownBlock = some k → base ≤ k ∧ k < w.heap.size := by
  obtain ⟨xs, h1, _⟩ := h
  exact h1.lt
theorem BR.new {w w' : World} {base n r : Nat} {v : Value} (h : BR w base v n) (hg : w.grownBy w' (some r)) (hr : w.heap.size ≤ r) : BR w' base v n := h.kept hg (Or.inr (fun e => by have := (h.lt r e).2; omega))
/-- A block with another type's number is not the row's. -/
theorem BR.tag {w : World} {base n b t : Nat} {v : Value} {arr : Array Value} (h : BR w base v n) (hb : w.heap[b]? = some (.cells arr t (0, 0))) (ht : t ≠ 5) : v.ownBlock ≠ some b := by
  intro e
  obtain ⟨xs, h1, _⟩ := h
  rcases h1.2 with ⟨rfl, _⟩ | ⟨g, cap, cur, rfl, _, hh, _⟩
  · simp [Value.ownBlock] at e
  · obtain rfl : g = b := by simpa [Value.ownBlock] using e
    rw [hb] at hh
    cases hh
    exact ht rfl
theorem BR.tagM {w : World} {base n b : Nat} {v : Value} {t size k : Nat} {v2 : Value} {xs : List Value} (h : BR w base v n) (h2 : w.ownsRow base t size v2 k xs) (hb : v2.ownBlock = some b) (ht : t ≠ 5) : v.ownBlock ≠ some b := by
  rcases h2.2 with ⟨rfl, _⟩ | ⟨g, cap, cur, rfl, _, hh, _⟩
  · simp [Value.ownBlock] at hb
  · obtain rfl : g = b := by simpa [Value.ownBlock] using hb
    exact h.tag hh ht
/-- What the row reads as. -/
theorem BR.reads {w : World} {base n : Nat} {v : Value} (h : BR w base v n) : ∃ a c f, v = .slice a n c ∧ n ≤ c ∧ c ≤ maxLen ∧ (0 < n → ∃ g, a = some ⟨g, 0, none⟩ ∧ base ≤ g ∧ By w g 0 n f ∧ ∀ m, m < n → w.frozen? ⟨g, m, none⟩ = false) := by
  obtain ⟨xs, h1, h2⟩ := h
  rcases h1.2 with ⟨rfl, rfl⟩ | ⟨g, cap, cur, rfl, hb, hh, hn, hm, hs, ht⟩
  · exact ⟨none, 0, fun _ => 0, rfl, Nat.le_refl _, Nat.zero_le _, fun h => absurd h (by omega)⟩
  · have key : ∀ m, m < n → ∃ b : UInt8, w.cell? ⟨g, m, none⟩ = some (.int .u8 b.toNat) := fun m hm => by
      have hl : m < xs.length := by rw [h1.1]; omega
      obtain ⟨z, hz, hz0, hz1⟩ := h2 (xs[m]) (List.getElem_mem hl)
      refine ⟨UInt8.ofNat z.toNat, ?_⟩
      rw [h1.cellAt m (by omega), List.getElem?_eq_getElem hl, hz]
      congr 2
      have : (UInt8.ofNat z.toNat).toNat = z.toNat := by
        rw [UInt8.toNat_ofNat']
        exact Nat.mod_eq_of_lt (by omega)
      rw [this]
      omega
    refine ⟨some ⟨g, 0, none⟩, cap, fun m => if hm : m < n then (key m hm).choose else 0, rfl, hn, hm, fun _ => ⟨g, rfl, hb, fun m hm => ?_, fun m _ => h1.frozenAt m⟩⟩
    rw [Nat.zero_add]
    simp only [hm, dif_pos]
    exact (key m hm).choose_spec

theorem Ybaf.info5z : (Ybaf.prog.info? 5).map (fun i => (i.zero, i.size, i.bytes)) = some (some (.int .u8 0), 1, 1) := by kernel_rfl
/-- append of bytes. -/
theorem wpList_appB {ops : Array Oper} {rest : List Oper} {op : Oper} {a : Act} {w : World} {Q : Exit → Act → World → Prop} (hgd : op.guard = none) (s x : Operand) (ho : op.op = .call { callee := .builtin .append, args := #[s, x], argTypes := #[24, 24] })
    (base n m c b o : Nat) (v : Value) (hs : a.eval s = v) (hx : a.eval x = .slice (some ⟨b, o, none⟩) m c) (hr : BR w base v n) (hb : Bs w b o m) (hn : n + m ≤ 100000000) (hbase : base ≤ w.heap.size)
    (h : ∀ v' w', Hid (BR w' base v' (n + m)) → Hid (w.grownBy w' v.ownBlock) → wpList Ybaf.prog ops Q rest (a.put op.dst v') w') : wpList Ybaf.prog ops Q (op :: rest) a w := by
  obtain ⟨i5, hi5, h51, h52, h53⟩ := info_parts Ybaf.info5z
  obtain ⟨xs, h1, h2⟩ := hr
  have hz : ∀ k, ∃ z : Int, (k < m → w.cell? ⟨b, o + k, none⟩ = some (.int .u8 z)) ∧ 0 ≤ z ∧ z < 256 := fun k => by
    by_cases hk : k < m
    · obtain ⟨z, hz1, hz2⟩ := hb k hk
      exact ⟨z, fun _ => hz1, hz2⟩
    · exact ⟨0, fun h => absurd h hk, by omega, by omega⟩
  refine wpList_append_own w hgd s x 24 ho base 5 i5 (.int .u8 0) 1 1 Ybaf.underlying24 hi5 h51 h52 h53 rfl (by omega) v n xs hs h1 ⟨b, o, none⟩ m c ((List.range m).map (fun k => .int .u8 (hz k).choose)) hx (by simp) (fun j u hj => ?_) (fun u hu => ?_) (by unfold maxLen; omega) (by omega) hbase ?_
  · have hlt : j < m := by have := (List.getElem?_eq_some_iff.1 hj).1; simpa using this
    rw [add0]
    have : ((List.range m).map (fun k => Value.int .u8 (hz k).choose))[j]? = some (.int .u8 (hz j).choose) := by simp [hlt]
    rw [this] at hj
    cases hj
    exact (hz j).choose_spec.1 hlt
  · obtain ⟨k, _, rfl⟩ := List.mem_map.1 hu
    rfl
  · intro v' w' k1 k2 _
    refine h v' w' (hide ⟨_, k1, fun u hu => ?_⟩) (hide k2)
    rcases List.mem_append.1 hu with hu | hu
    · exact h2 u hu
    · obtain ⟨k, _, rfl⟩ := List.mem_map.1 hu
      exact ⟨_, rfl, (hz k).choose_spec.2⟩
/-- append of a string. -/
theorem wpList_appS {ops : Array Oper} {rest : List Oper} {op : Oper} {a : Act} {w : World} {Q : Exit → Act → World → Prop} (hgd : op.guard = none) (s x : Operand) (ho : op.op = .call { callee := .builtin .append, args := #[s, x], argTypes := #[24, 9] })
    (base n : Nat) (v : Value) (t : ByteArray) (hs : a.eval s = v) (hx : a.eval x = .string t) (hr : BR w base v n) (hn : n + t.size ≤ 100000000) (hbase : base ≤ w.heap.size)
    (h : ∀ v' w', Hid (BR w' base v' (n + t.size)) → Hid (w.grownBy w' v.ownBlock) → wpList Ybaf.prog ops Q rest (a.put op.dst v') w') : wpList Ybaf.prog ops Q (op :: rest) a w := by
  obtain ⟨i5, hi5, h51, h52, h53⟩ := info_parts Ybaf.info5z
  obtain ⟨xs, h1, h2⟩ := hr
  refine Lib.wpList_append_own_string w hgd s x 24 9 ho base 5 i5 Ybaf.underlying24 Ybaf.underlying9 hi5 h51 h52 h53 v n xs hs h1 t hx (by unfold maxLen; omega) (by omega) hbase ?_
  intro v' w' k1 k2 _
  refine h v' w' (hide ⟨_, k1, fun u hu => ?_⟩) (hide k2)
  rcases List.mem_append.1 hu with hu | hu
  · exact h2 u hu
  · obtain ⟨k, _, rfl⟩ := List.mem_map.1 hu
    exact isB_of k

set_option maxRecDepth 100000 in
set_option maxHeartbeats 4000000 in
theorem names_f (w : World) : Calls Ybaf.prog 9 #[] w fun e w' => e = .returned (.slice (some ⟨w.heap.size, 0, none⟩) 18 18) ∧ (∀ i, i < 18 → ∃ s : ByteArray, w'.cell? ⟨w.heap.size, i, none⟩ = some (.string s) ∧ s.size ≤ 3) ∧ Below w.heap.size w w' := by
  go_enter Ybaf.func9, Ybaf.ntmps9
  go_wp2_with fail
  go_ret
  refine ⟨rfl, fun i hi => ?_, (Below.refl _ _).alloc (Nat.le_refl _) _⟩
  rw [World.cell?_alloc_at (w := w) _ 9 _ i rfl]
  rcases i with _ | _ | _ | _ | _ | _ | _ | _ | _ | _ | _ | _ | _ | _ | _ | _ | _ | _ | i <;> first | exact ⟨_, rfl, by decide⟩ | omega

theorem wrap8 (z : Int) : ∃ y : Int, IntKind.u8.wrap z = y ∧ 0 ≤ y ∧ y < 256 := ⟨_, rfl, by rw [IntKind.wrap_u8]; omega, by rw [IntKind.wrap_u8]; omega⟩

set_option maxRecDepth 100000 in
set_option maxHeartbeats 4000000 in
theorem beb_f (base n : Nat) (v : Value) (x : Int) (w : World) (hx0 : 0 ≤ x) (hx1 : x < 4294967296) (hr : BR w base v n) (hn : n ≤ 10000000) (hbase : base ≤ w.heap.size) :
    Calls Ybaf.prog 10 #[v, .int .u32 x] w fun e w' => ∃ v', e = .returned v' ∧ BR w' base v' (n + 4) ∧ w.grownBy w' v.ownBlock := by
  have HR := hide hr
  clear hr
  go_enter Ybaf.func10, Ybaf.ntmps10
  have hHR : Hid (∀ c, BR (w.alloc (.cells c 5)) base v n) := hide (fun c => HR.out.new (alloc_grown w _ (some w.heap.size)) (Nat.le_refl _))
  go_wp2_with (at_builtin; refine wpList_appB rfl (.tmp 5) (.tmp 17) rfl base n 4 4 w.heap.size 0 v rfl rfl (hHR.out _) ?hb ?hn ?hs ?_)
  case hb =>
    intro m hm
    rw [World.cell?_alloc_at (w := w) _ 5 _ (0 + m) rfl]
    rcases m with _ | _ | _ | _ | m
    · exact ⟨_, rfl, by omega, by omega⟩
    · exact ⟨_, rfl, by omega, by omega⟩
    · exact ⟨_, rfl, by omega, by omega⟩
    · exact ⟨_, rfl, by omega, by omega⟩
    · omega
  case hn => omega
  case hs => simp; omega
  intro v' w' k1 k2
  have K2 : Hid (w.grownBy w' v.ownBlock) := hide (grown_trans (alloc_grown w _ _) k2.out)
  clear k2
  go_wp2_with fail
  go_ret
  exact ⟨_, rfl, k1.out, K2.out⟩

theorem run_eql_nil24 (W : World) (a : Option Addr) (l c : Nat) : (binOp .eql 24 (.slice a l c) (.slice none 0 0)).run Ybaf.prog W = .ok (.bool a.isNone) W := by
  simp [binOp, Op.equal]
  cases a <;> rfl
set_option maxRecDepth 100000 in
set_option maxHeartbeats 4000000 in
/-- slices.Clone of bytes. -/
theorem clone_f (a : Option Addr) (n c : Nat) (f : Nat → UInt8) (w : World) (hn : n ≤ 100000000) (h : 0 < n → ∃ g o, a = some ⟨g, o, none⟩ ∧ By w g o n f) :
    Calls Ybaf.prog 4 #[.slice a n c] w fun e w' => ∃ v', e = .returned v' ∧ (∃ xs, w'.ownsRow w.heap.size 5 1 v' n xs ∧ (∀ u ∈ xs, isB u) ∧ (0 < n → xs = cl f n)) ∧ Below w.heap.size w w' := by
  obtain ⟨i5, hi5, h51, h52, h53⟩ := info_parts Ybaf.info5z
  have H := hide h
  clear h
  cases a with
  | none =>
    have hn0 : n = 0 := by
      rcases Nat.eq_zero_or_pos n with h0 | h0
      · exact h0
      · obtain ⟨g, o, e, _⟩ := H.out h0
        cases e
    subst hn0
    have heq := fun W => run_eql_nil24 W none 0 c
    go_enter Ybaf.func4, Ybaf.ntmps4
    go_wp2_with fail
    go_ret
    exact ⟨_, rfl, ⟨[], World.ownsRow_nil _ _ _ _, (fun u hu => nomatch hu), fun h => absurd h (by omega)⟩, Below.refl _ _⟩
  | some ad =>
    have heq := fun W => run_eql_nil24 W (some ad) n c
    go_enter Ybaf.func4, Ybaf.ntmps4
    have own0 : Hid ((w.alloc (.cells #[] 5)).ownsRow w.heap.size 5 1 (.slice (some ⟨w.heap.size, 0, none⟩) 0 0) 0 []) := hide ⟨rfl, Or.inr ⟨w.heap.size, 0, #[], rfl, Nat.le_refl _, (MapKept.heap_alloc w _).1, Nat.le_refl _, by unfold maxLen; omega, rfl, rfl⟩⟩
    go_wp2_with (at_builtin; refine wpList_append_own _ rfl (.tmp 5) (.tmp 6) 24 rfl w.heap.size 5 i5 (.int .u8 0) 1 1 Ybaf.underlying24 hi5 h51 h52 h53 rfl (by omega) (.slice (some ⟨w.heap.size, 0, none⟩) 0 0) 0 [] rfl own0.out ad n c (cl f n) rfl (by simp) ?hc (cl_one f n) ?hm ?hby ?hba ?_)
    case hc =>
      intro j u hj
      have hlt : j < n := by have := (List.getElem?_eq_some_iff.1 hj).1; simpa using this
      obtain ⟨g, o, e, hB⟩ := H.out (by omega)
      cases e
      rw [cl_get f n j hlt] at hj
      cases hj
      rw [add0]
      exact (alloc_grown w _ none).cell (hB j hlt) (by simp)
    case hm => unfold maxLen; omega
    case hby => omega
    case hba => simp
    intro v' w' k1 k2 _
    have K1 := hide k1
    have K2 : Hid (Below w.heap.size w w') := hide (below_by ((Below.refl _ w).alloc (Nat.le_refl _) _) k2 (fun k e => by simp [Value.ownBlock] at e; omega) (by simp))
    clear k1 k2
    go_wp2_with fail
    go_ret
    refine ⟨_, rfl, ⟨cl f n, ?_, fun u hu => ?_, fun _ => rfl⟩, K2.out⟩
    · exact K1.out
    · obtain ⟨i, _, rfl⟩ := List.mem_map.1 hu
      exact isB_of (f i)

set_option maxRecDepth 100000 in
set_option maxHeartbeats 4000000 in
/-- slices.Equal of a row and its like. -/
theorem equal_f (a1 a2 : Option Addr) (n c1 c2 : Nat) (f : Nat → UInt8) (w : World) (hn : n ≤ 100000000) (h1 : 0 < n → ∃ g o, a1 = some ⟨g, o, none⟩ ∧ By w g o n f) (h2 : 0 < n → ∃ g o, a2 = some ⟨g, o, none⟩ ∧ By w g o n f) :
    Calls Ybaf.prog 8 #[.slice a1 n c1, .slice a2 n c2] w fun e w' => e = .returned (.bool true) ∧ Below w.heap.size w w' := by
  have hne : ((n : Int) != n) = false := by simp
  have H1 := hide h1
  have H2 := hide h2
  clear h1 h2
  have hn' : (n : Int) ≤ 100000000 := by omega
  go_enter Ybaf.func8, Ybaf.ntmps8
  go_wp2_with fail
  go_loopw [13] (fun v wr => ∃ k : Nat, v = .int .i64 k ∧ k ≤ n ∧ (∃ q, wr = w.drewN q)) (fun v _ => n - (intOf v).toNat)
  case atStart => exact ⟨0, rfl, Nat.zero_le _, ⟨0, rfl⟩⟩
  case round =>
    obtain ⟨k, rfl, hkn, ⟨q, hq⟩⟩ := hrel
    by_cases hlt : k < n
    · have hlt' : (k : Int) < n := by omega
      obtain ⟨g1, o1, rfl, b1⟩ := H1.out (by omega)
      obtain ⟨g2, o2, rfl, b2⟩ := H2.out (by omega)
      have c1' := b1 k hlt
      have c2' := b2 k hlt
      clear b1 b2
      rw [hq]
      go_wp2_with fail
      go_quiet (fail)
      go_wp2_with fail
      go_roundw
      case rel => exact ⟨k + 1, by go_num, by omega, ⟨q + nq, rfl⟩⟩
      case measure => simp [intOf]; omega
    · have hlt' : ¬ (k : Int) < n := by omega
      obtain rfl : k = n := by omega
      rw [hq]
      go_wp2_with fail
      go_ret
      exact ⟨rfl, below_drewN (Below.refl _ _) _⟩
end Go.Proofs.YbulkdznmFmt.A

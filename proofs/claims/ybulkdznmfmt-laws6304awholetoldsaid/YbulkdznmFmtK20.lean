/- 6304A: what the law does to the body ahead of the two parsers. -/
import Derived.Test.YbulkdznmFmtK16
import Derived.Test.YbulkdznmFmtK17
import Derived.Laws.AppendOwnNone
namespace Go.Proofs.YbulkdznmFmt.A
open Go.RowKit

/-- append of bytes that came in: nil, empty or not. -/
theorem wpList_appX {ops : Array Oper} {rest : List Oper} {op : Oper} {a : Act} {w : World} {Q : Exit → Act → World → Prop} (hgd : op.guard = none) (s x : Operand) (ho : op.op = .call { callee := .builtin .append, args := #[s, x], argTypes := #[24, 24] })
    (base n X xc : Nat) (xa : Option Addr) (XB : Nat → UInt8) (v : Value) (hs : a.eval s = v) (hx : a.eval x = .slice xa X xc) (hnil : xa = none → X = 0 ∧ xc = 0) (hpos : 0 < X → ∃ g o, xa = some ⟨g, o, none⟩ ∧ By w g o X XB) (hr : BR w base v n) (hn : n + X ≤ 100000000) (hbase : base ≤ w.heap.size)
    (h : ∀ v' w', Hid (BR w' base v' (n + X)) → Hid (w.grownBy w' v.ownBlock) → wpList Ybaf.prog ops Q rest (a.put op.dst v') w') : wpList Ybaf.prog ops Q (op :: rest) a w := by
  obtain ⟨i5, hi5, h51, h52, h53⟩ := info_parts Ybaf.info5z
  obtain ⟨xs, h1, h2⟩ := hr
  cases xa with
  | none =>
    obtain ⟨rfl, rfl⟩ := hnil rfl
    refine wpList_append_own_none hgd s x 24 ho base 5 i5 1 Ybaf.underlying24 hi5 v n xs hs h1 hx ?_
    exact h v w (hide ⟨xs, h1, h2⟩) (hide (grown_refl w _))
  | some ad =>
    refine wpList_append_own w hgd s x 24 ho base 5 i5 (.int .u8 0) 1 1 Ybaf.underlying24 hi5 h51 h52 h53 rfl (by omega) v n xs hs h1 ad X xc (cl XB X) hx (by simp) (fun j u hj => ?_) (cl_one _ _) (by unfold maxLen; omega) (by omega) hbase ?_
    · have hlt : j < X := by have := (List.getElem?_eq_some_iff.1 hj).1; simpa using this
      obtain ⟨g, o, e, hB⟩ := hpos (by omega)
      cases e
      rw [cl_get _ _ _ hlt] at hj
      cases hj
      rw [add0]
      exact hB j hlt
    · intro v' w' k1 k2 _
      refine h v' w' (hide ⟨_, k1, fun u hu => ?_⟩) (hide k2)
      rcases List.mem_append.1 hu with hu | hu
      · exact h2 u hu
      · obtain ⟨k, _, rfl⟩ := List.mem_map.1 hu
        exact isB_of _
theorem BR.at {w : World} {base n : Nat} {v : Value} (h : BR w base v n) (hn : 0 < n) : ∃ g c, v = .slice (some ⟨g, 0, none⟩) n c ∧ n ≤ c ∧ c ≤ 9223372036854775807 ∧ base ≤ g := by
  obtain ⟨xs, h1, _⟩ := h
  rcases h1.2 with ⟨rfl, rfl⟩ | ⟨g, cap, cur, rfl, hb, hh, hnc, hm, hs, ht⟩
  · omega
  · exact ⟨g, cap, rfl, hnc, by unfold maxLen at hm; omega, hb⟩
theorem BR.cut {w : World} {base n n1 g c : Nat} (h : BR w base (.slice (some ⟨g, 0, none⟩) n c) n) (hn : n1 ≤ n) : BR w base (.slice (some ⟨g, 0, none⟩) n1 c) n1 := by
  obtain ⟨xs, h1, h2⟩ := h
  rcases h1.2 with ⟨e, _⟩ | ⟨g', cap, cur, e, hb, hh, hnc, hm, hs, ht⟩
  · cases e
  · cases e
    refine ⟨xs.take n1, ⟨by rw [List.length_take, h1.1]; omega, Or.inr ⟨g, c, cur, rfl, hb, hh, by omega, hm, hs, ?_⟩⟩, fun u hu => h2 u (List.mem_of_mem_take hu)⟩
    rw [← ht, List.take_take]
    congr 1
    omega
theorem BR.byte {w : World} {base n g c k : Nat} (h : BR w base (.slice (some ⟨g, 0, none⟩) n c) n) (hk : k < n) : (∃ b : UInt8, w.cell? ⟨g, k, none⟩ = some (.int .u8 b.toNat)) ∧ w.frozen? ⟨g, k, none⟩ = false := by
  obtain ⟨a, c', f, e, _, _, hp⟩ := h.reads
  obtain ⟨g', e', _, hB, hf⟩ := hp (by omega)
  cases e
  cases e'
  have := hB k hk
  rw [Nat.zero_add] at this
  exact ⟨⟨_, this⟩, hf k hk⟩
theorem BR.put {w : World} {base n g c k : Nat} {z : Int} (h : BR w base (.slice (some ⟨g, 0, none⟩) n c) n) (hz : 0 ≤ z ∧ z < 256) : BR (w.setCell ⟨g, k, none⟩ (.int .u8 z)) base (.slice (some ⟨g, 0, none⟩) n c) n := by
  obtain ⟨xs, h1, h2⟩ := h
  refine ⟨_, (h1.stored k (.int .u8 z)).1, fun u hu => ?_⟩
  rcases List.mem_or_eq_of_mem_set hu with hu | rfl
  · exact h2 u hu
  · exact ⟨z, rfl, hz⟩

/-- The sum of the first so many. -/
def sums (kl : Nat → Nat) : Nat → Nat
  | 0 => 0
  | i + 1 => sums kl i + kl i
theorem sums_le (kl : Nat → Nat) (S : Nat) (h : ∀ i, i < S → kl i ≤ 140737488355328) : ∀ i, i ≤ S → sums kl i ≤ i * 140737488355328
  | 0, _ => Nat.le_refl _
  | i + 1, hi => by
    have := sums_le kl S h i (by omega)
    have := h i (by omega)
    simp only [sums]
    omega
theorem sums_mono (kl : Nat → Nat) : ∀ (i d : Nat), sums kl i ≤ sums kl (i + d)
  | i, 0 => Nat.le_refl _
  | i, d + 1 => Nat.le_trans (sums_mono kl i d) (by rw [← Nat.add_assoc]; simp [sums])
end Go.Proofs.YbulkdznmFmt.A

/- 6297C: the plain law: the value backed often enough, counted by codes. No Go in sight. -/
import Derived.Test.YbulkdzjsC3
namespace Go.Proofs.Ybulkdzjs.A
open Flt

/-- Node k+1 backs the code c as entry j0 by its vector. -/
def Sp (N : Nd) (j0 c k : Nat) : Bool := (k + 1 != N.self) && (!N.cf k && (N.nn k && N.vc k j0 == c))
/-- The code c is backed often enough. -/
def Ql (N : Nd) (j0 c : Nat) : Bool := decide (0 < cnt (Sp N j0 c) N.n) && decide ((N.n : Int) - N.f ≤ ((1 + cnt (Cn N) N.n + cnt (Sp N j0 c) N.n : Nat) : Int))
/-- How many codes up to m pass, and the last one that does. -/
def qu (q : Nat → Bool) : Nat → Nat
  | 0 => 0
  | m + 1 => qu q m + (if q (m + 1) then 1 else 0)
def wcd (q : Nat → Bool) : Nat → Nat
  | 0 => 0
  | m + 1 => if q (m + 1) then m + 1 else wcd q m
theorem qu_le (q : Nat → Bool) (m : Nat) : qu q m ≤ m := by
  induction m with
  | zero => exact Nat.le_refl _
  | succ m ih => rw [qu]; split <;> omega
theorem wcd_le (q : Nat → Bool) (m : Nat) : wcd q m ≤ m := by
  induction m with
  | zero => exact Nat.le_refl _
  | succ m ih => rw [wcd]; split <;> omega
theorem fin_or {c : Nat} (h : fin c = true) : c = 1 ∨ c = 2 ∨ c = 3 := by
  simp only [fin, Bool.or_eq_true, beq_iff_eq] at h; omega
theorem vS_inj {a b : Nat} (ha : fin a = true) (hb : fin b = true) (h : vS a = vS b) : a = b := by
  have e : vi a = vi b := congrArg Subtype.val h
  rcases fin_or ha with rfl | rfl | rfl <;> rcases fin_or hb with rfl | rfl | rfl <;> first | rfl | (simp [vi] at e)
theorem count_bl (N : Nd) (j0 c : Nat) (hc : fin c = true) (K : Nat) : (bl N j0 K).count (vS c) = cnt (Sp N j0 c) K := by
  induction K with
  | zero => rfl
  | succ K ih =>
    rw [bl, cnt, List.count_append, ih]
    congr 1
    by_cases hB : Bk N j0 K = true
    · rw [if_pos hB]
      simp only [Bk, Bool.and_eq_true] at hB
      obtain ⟨h1, h2, h3, h4⟩ := hB
      by_cases e : N.vc K j0 = c
      · rw [e, if_pos (by simp only [Sp, h1, h2, h3, e]; simp)]
        simp
      · rw [if_neg (by simp [Sp, e])]
        rw [List.count_eq_zero]
        intro hm
        rw [List.mem_singleton] at hm
        exact e (vS_inj h4 hc hm.symm)
    · rw [if_neg hB, if_neg]
      · rfl
      · intro hS
        apply hB
        simp only [Sp, Bool.and_eq_true, beq_iff_eq] at hS
        obtain ⟨h1, h2, h3, h4⟩ := hS
        simp only [Bk, h1, h2, h3, h4, hc]
        rfl
theorem mem_bl {N : Nd} {j0 K : Nat} {v : Sv} (h : v ∈ bl N j0 K) : ∃ c, fin c = true ∧ v = vS c := by
  induction K with
  | zero => cases h
  | succ K ih =>
    rw [bl, List.mem_append] at h
    rcases h with h | h
    · exact ih h
    · split at h
      · rename_i hB
        rw [List.mem_singleton] at h
        simp only [Bk, Bool.and_eq_true] at hB
        exact ⟨_, hB.2.2.2, h⟩
      · cases h
theorem ql_iff (N : Nd) (j0 c : Nat) (hc : fin c = true) : Ql N j0 c = true ↔ vS c ∈ bl N j0 N.n ∧ (N.n : Int) - N.f ≤ ((1 + cnt (Cn N) N.n + (bl N j0 N.n).count (vS c) : Nat) : Int) := by
  rw [Ql, Bool.and_eq_true, decide_eq_true_eq, decide_eq_true_eq, ← count_bl N j0 c hc, List.count_pos_iff]
/-- The code kept where the node has forgotten its own entries. -/
def wq (N : Nd) (j0 : Nat) : Nat := if qu (Ql N j0) 3 = 1 then wcd (Ql N j0) 3 else 0
theorem qw_one (q : Nat → Bool) (c : Nat) (hf : fin c = true) (hc : q c = true) (ho : ∀ c', fin c' = true → q c' = true → c' = c) : qu q 3 = 1 ∧ wcd q 3 = c := by
  have h1 := ho 1 rfl
  have h2 := ho 2 rfl
  have h3 := ho 3 rfl
  simp only [qu, wcd]
  rcases fin_or hf with rfl | rfl | rfl <;> cases e1 : q 1 <;> cases e2 : q 2 <;> cases e3 : q 3 <;> simp_all
theorem qw_none (q : Nat → Bool) (ho : ∀ c, fin c = true → q c = false) : qu q 3 = 0 := by
  simp [qu, ho 1 rfl, ho 2 rfl, ho 3 rfl]
theorem qw_two (q : Nat → Bool) (a b : Nat) (ha : fin a = true) (hb : fin b = true) (hab : a ≠ b) (qa : q a = true) (qb : q b = true) : qu q 3 ≠ 1 := by
  simp only [qu]
  rcases fin_or ha with rfl | rfl | rfl <;> rcases fin_or hb with rfl | rfl | rfl <;> cases e1 : q 1 <;> cases e2 : q 2 <;> cases e3 : q 3 <;> simp_all
theorem res_wq {N : Nd} {j0 x : Nat} {y : Bool} (h : Res (bl N j0 N.n) (1 + cnt (Cn N) N.n) ((N.n : Int) - N.f) x y) : x = wd (wq N j0) ∧ y = vd (wq N j0) := by
  rcases h with ⟨rfl, rfl, h⟩ | ⟨rfl, v, hv, rfl, hq, ho⟩
  · have h0 : wq N j0 = 0 := by
      unfold wq
      rw [if_neg]
      rcases h with h | ⟨u, hu, v, hv, huv, q1, q2⟩
      · rw [qw_none]
        · omega
        · intro c hc
          rw [← Bool.not_eq_true, ql_iff N j0 c hc]
          rintro ⟨hm, hq⟩
          exact h _ hm hq
      · obtain ⟨a, ha, rfl⟩ := mem_bl hu
        obtain ⟨b, hb, rfl⟩ := mem_bl hv
        exact qw_two _ a b ha hb (fun e => huv (by rw [e])) ((ql_iff N j0 a ha).2 ⟨hu, q1⟩) ((ql_iff N j0 b hb).2 ⟨hv, q2⟩)
    rw [h0]
    exact ⟨rfl, rfl⟩
  · obtain ⟨c, hc, rfl⟩ := mem_bl hv
    have h1 : wq N j0 = c := by
      unfold wq
      obtain ⟨e1, e2⟩ := qw_one (Ql N j0) c hc ((ql_iff N j0 c hc).2 ⟨hv, hq⟩) (fun c' hc' hq' => by
        obtain ⟨m', q'⟩ := (ql_iff N j0 c' hc').1 hq'
        exact vS_inj hc' hc (ho _ m' q'))
      rw [if_pos e1, e2]
    rw [h1]
    refine ⟨(wd_vi c hc).symm, ?_⟩
    rcases fin_or hc with rfl | rfl | rfl <;> rfl
end Go.Proofs.Ybulkdzjs.A

/- 6304A: what the parameters read as, opened. -/
import Derived.Test.YbulkdznmFmtK19
import Derived.ProofKit
import Derived.Deep.Strs
import Derived.Deep.Matrix
import Derived.OpenShut
import Derived.Handed
namespace Go.Proofs.YbulkdznmFmt.A
open Go.ChangeShapes Go.WideShapes Go.ChangeAt Go.RowKit

theorem b8_of {z : Int} (h : (Lit.int .u8 z).wf = true) : ∃ b : UInt8, z = (b.toNat : Int) := by
  have := bounds_u8 h
  refine ⟨UInt8.ofNat z.toNat, ?_⟩
  have e : (UInt8.ofNat z.toNat).toNat = z.toNat := by
    rw [UInt8.toNat_ofNat']
    exact Nat.mod_eq_of_lt (by omega)
  rw [e]
  omega
theorem cells26 : Ybaf.prog.cellsOf 26 = 3 := by kernel_rfl
theorem cells5 : Ybaf.prog.cellsOf 5 = 1 := by kernel_rfl
theorem cells24 : Ybaf.prog.cellsOf 24 = 1 := by kernel_rfl
theorem bytes5 : Ybaf.prog.bytesOf 5 = 1 := by kernel_rfl

section
variable {H : Type} {enc : TypeId × Value → H} {W : World} {a : Option Addr} {l c : Nat} {d : DataW H} {p : List MemPlace}
/-- A row of bytes, as it came in. -/
theorem op_bytes {fuel : Nat} {v : Value} {y : DataW H × List MemPlace} (hf : DataW.trod enc Ybaf.prog W 0 (fun _ => true) true fuel 24 [v] = some y) :
    ∃ (a : Option Addr) (l c : Nat) (f : Nat → UInt8), v = .slice a l c ∧ (a = none → l = 0 ∧ c = 0) ∧ l ≤ maxLen ∧ (0 < l → ∃ g o, a = some ⟨g, o, none⟩ ∧ By W g o l f) ∧ ∀ R, (DataW.weights Ybaf.prog 24 y.1).all (· ≤ R) = true → l ≤ R := by
  rcases open_ints Ybaf.underlying24 Ybaf.underlying5 cells5 hf with ⟨hcs, rfl⟩ | ⟨x, l', c', zs, hcs, _, hl, hm, hz, rfl, hcell, hwz⟩
  · simp at hcs
    subst hcs
    exact ⟨none, 0, 0, fun _ => 0, rfl, fun _ => ⟨rfl, rfl⟩, Nat.zero_le _, fun h => absurd h (Nat.lt_irrefl 0), fun R _ => Nat.zero_le _⟩
  · simp at hcs
    subst hcs
    have hz' : zs.length = c' := by simpa using hz
    have key : ∀ i, i < zs.length → ∃ b : UInt8, zs.getD i 0 = (b.toNat : Int) := fun i hi => b8_of (hwz _ (by rw [List.getD_eq_getElem?_getD, List.getElem?_eq_getElem hi]; simp))
    obtain ⟨f, hfz⟩ := Deep.choose_lt key
    refine ⟨some x, l', c', f, rfl, (fun h => nomatch h), Nat.le_trans hl hm, fun hp => ?_, fun R hR => ?_⟩
    · obtain ⟨b, o, rfl, hc⟩ := ints_at hcell (by omega)
      exact ⟨b, o, rfl, fun i hi => by rw [hc i (by omega), hfz i (by omega)]⟩
    · simp only [DataW.weights, Ybaf.underlying24, bytes5, List.all_cons, Bool.and_eq_true, decide_eq_true_eq] at hR
      have := hR.1
      simp [lits] at this
      omega
/-- One scope's plain data, as it came in. -/
theorem op_elem {fuel : Nat} {cs : List Value} {y : DataW H × List MemPlace} (hf : DataW.trod enc Ybaf.prog W 0 (fun _ => true) true fuel 26 cs = some y) :
    ∃ (b1 b2 : UInt8) (a : Option Addr) (l c : Nat) (f : Nat → UInt8), cs = [.int .u8 b1.toNat, .int .u8 b2.toNat, .slice a l c] ∧ (0 < l → ∃ g o, a = some ⟨g, o, none⟩ ∧ By W g o l f) ∧ ∀ R, (DataW.weights Ybaf.prog 26 y.1).all (· ≤ R) = true → l ≤ R := by
  obtain ⟨y0, y1, y2, n, rfl, hlen, h0, h1, h2⟩ := Deep.trod_struct3 Ybaf.underlying26 hf
  rw [cells26] at hlen
  match cs, hlen with
  | [v0, v1, v2], _ =>
    simp only [cells5, cells24, List.drop_zero, List.drop_succ_cons, List.take_succ_cons, List.take_zero] at h0 h1 h2
    obtain ⟨z0, e0, _, w0⟩ := DataW.trod_int Ybaf.underlying5 h0
    obtain ⟨z1, e1, _, w1⟩ := DataW.trod_int Ybaf.underlying5 h1
    obtain ⟨a, l, c, f, rfl, _, _, hp, hw⟩ := op_bytes h2
    obtain ⟨b0, rfl⟩ := b8_of w0
    obtain ⟨b1, rfl⟩ := b8_of w1
    simp at e0 e1
    subst e0
    subst e1
    refine ⟨b0, b1, a, l, c, f, rfl, hp, fun R hR => hw R ?_⟩
    simp only [DataW.weights, Ybaf.underlying26] at hR
    simp [DataW.weightsEach] at hR ⊢
    intro k hk
    exact hR.2.2 k hk
theorem weightsAll_mem {P : Program} {e : TypeId} : ∀ {ds : List (DataW H)} {x : DataW H} {k : Nat}, x ∈ ds → k ∈ DataW.weights P e x → k ∈ DataW.weightsAll P e ds
  | [], _, _, h, _ => by cases h
  | d :: ds, x, k, h, hk => by
    rw [DataW.weightsAll, List.mem_append]
    rcases List.mem_cons.1 h with rfl | h
    · exact Or.inl hk
    · exact Or.inr (weightsAll_mem h hk)
theorem op_spec {fuel : Nat} (hf : DataW.trod enc Ybaf.prog W 0 (fun _ => true) true fuel 22 [.slice a l c] = some (d, p)) (R : Nat) (hR : (DataW.weights Ybaf.prog 22 d).all (· ≤ R) = true) :
    ∃ P1 P2 ka kl kc K, Spec W a l P1 P2 ka kl kc K ∧ l ≤ maxLen ∧ ∀ i, i < l → kl i ≤ R := by
  rcases Deep.open_slice Ybaf.underlying22 hf with ⟨hcs, _⟩ | ⟨x, len, cap, m, n, D, Pl, hcs, _, hl, hm, hmm, hx, hel⟩
  · simp at hcs
    obtain ⟨rfl, rfl, rfl⟩ := hcs
    exact ⟨fun _ => 0, fun _ => 0, fun _ => none, fun _ => 0, fun _ => 0, fun _ _ => 0, ⟨fun h => absurd h (Nat.lt_irrefl 0), fun i h => absurd h (Nat.not_lt_zero i)⟩, Nat.zero_le _, fun i h => absurd h (Nat.not_lt_zero i)⟩
  · simp at hcs
    obtain ⟨rfl, rfl, rfl⟩ := hcs
    have hmc : m = c := by simpa using hmm
    subst hmc
    rw [cells26] at hel
    obtain ⟨rfl, _⟩ : d = _ ∧ p = _ := by simpa using hx
    have key : ∀ i, i < l → ∃ q : UInt8 × UInt8 × Option Addr × Nat × Nat × (Nat → UInt8), W.cells? 0 (x.add (i * 3)) 3 = some [.int .u8 q.1.toNat, .int .u8 q.2.1.toNat, .slice q.2.2.1 q.2.2.2.1 q.2.2.2.2.1] ∧ (0 < q.2.2.2.1 → ∃ g o, q.2.2.1 = some ⟨g, o, none⟩ ∧ By W g o q.2.2.2.1 q.2.2.2.2.2) ∧ q.2.2.2.1 ≤ R := fun i hi => by
      obtain ⟨cs', hc', ht⟩ := hel i (by omega)
      obtain ⟨b1, b2, a', l', c', f', rfl, hp', hw'⟩ := op_elem ht
      refine ⟨(b1, b2, a', l', c', f'), hc', hp', hw' R ?_⟩
      rw [List.all_eq_true] at hR ⊢
      intro k hk
      refine hR k ?_
      rw [DataW.weights, Ybaf.underlying22]
      simp only [List.mem_cons, List.mem_append]
      exact Or.inr (Or.inl (weightsAll_mem (List.mem_map.2 ⟨i, List.mem_range.2 hi, rfl⟩) hk))
    obtain ⟨q, hq⟩ := Deep.choose_lt key
    refine ⟨fun i => (q i).1, fun i => (q i).2.1, fun i => (q i).2.2.1, fun i => (q i).2.2.2.1, fun i => (q i).2.2.2.2.1, fun i => (q i).2.2.2.2.2, ⟨fun hp => ?_, fun i hi hp => (hq i hi).2.1 hp⟩, by omega, fun i hi => (hq i hi).2.2⟩
    obtain ⟨b, o, spot⟩ := x
    have h0 := (World.cells?_some (hq 0 hp).1).2.2 0 (by omega)
    have hspot : spot = none := by
      simp [Addr.add] at h0
      exact World.cell?_spot h0
    subst hspot
    refine ⟨b, o, rfl, ?_, fun i hi => ?_⟩
    · simp [Addr.add] at h0
      exact lt_of h0
    · have hh := (World.cells?_some (hq i hi).1).2.2
      have e0 := hh 0 (by omega)
      have e1 := hh 1 (by omega)
      have e2 := hh 2 (by omega)
      simp only [Go.WideShapes.add_plain] at e0 e1 e2
      exact ⟨by simpa using e0, by simpa using e1, by simpa using e2⟩
end
end Go.Proofs.YbulkdznmFmt.A

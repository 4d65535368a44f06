/- 6297C: the node in the world; confessedBy, trusted. -/
import Derived.Test.YbulkdzjsC1
namespace Go.Proofs.Ybulkdzjs.A
open Go.RowKit Flt

/-- Rounds counted: how many k below K pass p. -/
def cnt (p : Nat → Bool) : Nat → Nat
  | 0 => 0
  | K + 1 => cnt p K + (if p K then 1 else 0)
theorem cnt_le (p : Nat → Bool) (K : Nat) : cnt p K ≤ K := by
  induction K with
  | zero => exact Nat.le_refl _
  | succ K ih => rw [cnt]; split <;> omega

/-- A row of entries: n codes. -/
def Ro (w : World) (b n : Nat) (c : Nat → Nat) : Prop := ∀ i, i < n → w.cell? ⟨b, i * 2, none⟩ = some (.float .f64 (wd (c i))) ∧ w.cell? ⟨b, i * 2 + 1, none⟩ = some (.bool (vd (c i)))
/-- What the node is made of. -/
structure Nd where
  (n self f : Nat) (cu fo : Bool) (ec : Nat → Nat) (nn : Nat → Bool) (vc : Nat → Nat → Nat) (cf : Nat → Bool)
/-- Where it lies. -/
structure At where
  (cb eb vb fb : Nat) (rb : Nat → Nat)
/-- The node lies in the world. -/
structure CCw (A : At) (N : Nd) (w : World) : Prop where
  n0 : w.cell? ⟨A.cb, 0, none⟩ = some (.int .i64 N.n)
  s7 : w.cell? ⟨A.cb, 7, none⟩ = some (.int .i64 N.self)
  f8 : w.cell? ⟨A.cb, 8, none⟩ = some (.int .i64 N.f)
  r9 : w.cell? ⟨A.cb, 9, none⟩ = some (.int .i64 2)
  c10 : w.cell? ⟨A.cb, 10, none⟩ = some (.bool N.cu)
  g11 : w.cell? ⟨A.cb, 11, none⟩ = some (.bool N.fo)
  e12 : w.cell? ⟨A.cb, 12, none⟩ = some (.slice (some ⟨A.eb, 0, none⟩) N.n N.n)
  v13 : w.cell? ⟨A.cb, 13, none⟩ = some (.slice (some ⟨A.vb, 0, none⟩) N.n N.n)
  c14 : w.cell? ⟨A.cb, 14, none⟩ = some (.slice (some ⟨A.fb, 0, none⟩) N.n N.n)
  en : Ro w A.eb N.n N.ec
  co : ∀ i, i < N.n → w.cell? ⟨A.fb, i, none⟩ = some (.bool (N.cf i))
  ve : ∀ i, i < N.n → w.cell? ⟨A.vb, i, none⟩ = some (if N.nn i then .slice (some ⟨A.rb i, 0, none⟩) N.n N.n else .slice none 0 0)
  ro : ∀ i, i < N.n → N.nn i = true → Ro w (A.rb i) N.n (N.vc i)

set_option maxHeartbeats 2000000 in
theorem confessedBy_f (A : At) (N : Nd) (j : Nat) (w : World) (h : CCw A N w) (h1 : 1 ≤ j) (hj : j ≤ N.n) (hn : N.n ≤ 256) :
    Calls Yba.prog 27 #[.pointer (some ⟨A.cb, 0, none⟩), .int .i64 j] w fun e w' => e = .returned (.bool (if j = N.self then N.cu else N.cf (j - 1))) ∧ w' = w := by
  have hs7 := h.s7
  have hc10 := h.c10
  have hc14 := h.c14
  have hco := h.co (j - 1) (by omega)
  clear h
  obtain ⟨p, hp⟩ : ∃ p : Nat, (j : Int) - 1 = p := ⟨j - 1, by omega⟩
  have hp' : j - 1 = p := by omega
  rw [hp'] at hco ⊢
  have i1 : (p : Int) < N.n := by omega
  clear hp'
  by_cases e : j = N.self
  · have e' : ((j : Int) == N.self) = true := by simp; omega
    rw [if_pos e]
    clear e
    go_enter Yba.func27, Yba.ntmps27
    go_wp2
    go_ret
    exact ⟨rfl, rfl⟩
  · have e' : ((j : Int) == N.self) = false := by simp; omega
    rw [if_neg e]
    clear e
    go_enter Yba.func27, Yba.ntmps27
    go_wp2
    go_ret
    exact ⟨rfl, rfl⟩

/-- Node k+1, not the node itself, backs the code as entry j0. -/
def Tr (N : Nd) (j0 c k : Nat) : Bool := (k + 1 != N.self) && (N.cf k || (N.nn k && (c != 5 && N.vc k j0 == c)))
theorem feq (a b : Nat) (ha : a ≤ 5) (hb : 1 ≤ b ∧ b ≤ 5) : (vd a && (FloatKind.f64.format.order (wd a) (wd b) == some .eq)) = (b != 5 && a == b) := by
  have h1 : a = 0 ∨ a = 1 ∨ a = 2 ∨ a = 3 ∨ a = 4 ∨ a = 5 := by omega
  have h2 : b = 1 ∨ b = 2 ∨ b = 3 ∨ b = 4 ∨ b = 5 := by omega
  rcases h1 with rfl | rfl | rfl | rfl | rfl | rfl <;> rcases h2 with rfl | rfl | rfl | rfl | rfl <;> decide

set_option maxRecDepth 100000 in
set_option maxHeartbeats 4000000 in
theorem trusted_f (A : At) (N : Nd) (j c : Nat) (w : World) (h : CCw A N w) (h1 : 1 ≤ j) (hj : j ≤ N.n) (hn : N.n ≤ 256) (hf : N.f ≤ 256) (hc : 1 ≤ c ∧ c ≤ 5) (hv : ∀ k i, N.vc k i ≤ 5) :
    Calls Yba.prog 29 #[.pointer (some ⟨A.cb, 0, none⟩), .int .i64 j, .float .f64 (wd c)] w fun e w' => e = .returned (.bool (decide ((N.n : Int) - N.f ≤ (1 + cnt (Tr N (j - 1) c) N.n : Nat)))) ∧ ∃ q, w' = w.drewN q := by
  have hn0 := h.n0
  have hs7 := h.s7
  have hf8 := h.f8
  have hv13 := h.v13
  have hc14 := h.c14
  have H := hide h
  have Hv := hide hv
  clear h hv
  obtain ⟨p, hp⟩ : ∃ p : Nat, (j : Int) - 1 = p := ⟨j - 1, by omega⟩
  have hp' : j - 1 = p := by omega
  rw [hp']
  clear hp'
  have i1 : (p : Int) < N.n := by omega
  go_enter Yba.func29, Yba.ntmps29
  go_wp2_with fail
  go_loopw [7, 8] (fun vc vk wr => ∃ k : Nat, vk = .int .i64 (k + 1) ∧ vc = .int .i64 (1 + cnt (Tr N p c) k : Nat) ∧ k ≤ N.n ∧ wr = w) (fun _ vk _ => N.n + 1 - (intOf vk).toNat)
  case atStart => exact ⟨0, rfl, rfl, Nat.zero_le _, rfl⟩
  case round =>
    obtain ⟨k, rfl, rfl, hk, rfl⟩ := hrel
    have hle := cnt_le (Tr N p c) k
    obtain ⟨M, hM⟩ : ∃ M : Nat, Hid (1 + cnt (Tr N p c) k = M) := ⟨_, hide rfl⟩
    have hM' : M ≤ 257 := by have := hM.out; omega
    rw [hM.out]
    clear hle
    have step : Hid (∀ b : Bool, Tr N p c k = b → 1 + cnt (Tr N p c) (k + 1) = M + (if b then 1 else 0)) := hide (fun b e => by rw [cnt, e, ← hM.out]; omega)
    by_cases hlt : k < N.n
    · have hlt' : (k : Int) < N.n := by omega
      have hlt2 : (k : Int) + 1 ≤ N.n := by omega
      have hco := H.out.co k hlt
      have hve := H.out.ve k hlt
      by_cases hse : k + 1 = N.self
      · have hse' : ((k : Int) + 1 == (N.self : Int)) = true := by simp; omega
        go_wp2_with fail
        go_roundw
        case rel => exact ⟨k + 1, by go_num, by rw [step.out false (by simp [Tr, hse])]; rfl, by omega, trivial⟩
        case measure => simp [intOf]; omega
      · have hse' : ((k : Int) + 1 == (N.self : Int)) = false := by simp; omega
        have hse2 : Hid ((k + 1 != N.self) = true) := hide (by simpa using hse)
        obtain ⟨b1, hb1⟩ : ∃ b1, Hid (N.cf k = b1) := ⟨_, hide rfl⟩
        rw [hb1.out] at hco
        cases b1
        · obtain ⟨b2, hb2⟩ : ∃ b2, Hid (N.nn k = b2) := ⟨_, hide rfl⟩
          rw [hb2.out] at hve
          cases b2
          · have hve' : wr.cell? ⟨A.vb, k, none⟩ = some (.slice none 0 0) := by simpa using hve
            clear hve
            have hneq := fun W => run_neq_slice_nil_any (P := Yba.prog) W 66 69 none 0 0 0 0 Yba.underlying66
            go_wp2_with fail
            go_roundw
            case rel => exact ⟨k + 1, by go_num, by rw [step.out false (by simp [Tr, hb1.out, hb2.out])]; rfl, by omega, trivial⟩
            case measure => simp [intOf]; omega
          · have hve' : wr.cell? ⟨A.vb, k, none⟩ = some (.slice (some ⟨A.rb k, 0, none⟩) N.n N.n) := by simpa using hve
            clear hve
            have hneq := fun W => run_neq_slice_nil_any (P := Yba.prog) W 66 69 (some ⟨A.rb k, 0, none⟩) N.n N.n 0 0 Yba.underlying66
            obtain ⟨q1, q2⟩ := H.out.ro k hlt hb2.out p (by omega)
            have hfe := feq (N.vc k p) c (Hv.out k p) hc
            obtain ⟨b3, hb3⟩ : ∃ b3, vd (N.vc k p) = b3 := ⟨_, rfl⟩
            obtain ⟨b4, hb4⟩ : ∃ b4, (FloatKind.f64.format.order (wd (N.vc k p)) (wd c) == some .eq) = b4 := ⟨_, rfl⟩
            rw [hb3] at q2 hfe
            have HB4 : Hid ((b3 && b4) = (c != 5 && N.vc k p == c)) := hide (by rw [← hfe, hb4])
            clear hfe hb3
            have ht : Hid (Tr N p c k = (b3 && b4)) := hide (by simp only [Tr, hse2.out, hb1.out, hb2.out, HB4.out, Bool.true_and, Bool.false_or])
            cases b3
            · go_wp2_with fail
              go_roundw
              case rel => exact ⟨k + 1, by go_num, by rw [step.out false ht.out]; rfl, by omega, trivial⟩
              case measure => simp [intOf]; omega
            · cases b4
              · go_wp2_with fail
                go_roundw
                case rel => exact ⟨k + 1, by go_num, by rw [step.out false ht.out]; rfl, by omega, trivial⟩
                case measure => simp [intOf]; omega
              · go_wp2_with fail
                go_roundw
                case rel => exact ⟨k + 1, by go_num, by rw [step.out true ht.out]; go_num, by omega, trivial⟩
                case measure => simp [intOf]; omega
        · go_wp2_with fail
          go_roundw
          case rel => exact ⟨k + 1, by go_num, by rw [step.out true (by simp only [Tr, hse2.out, hb1.out, Bool.true_and, Bool.true_or])]; go_num, by omega, trivial⟩
          case measure => simp [intOf]; omega
    · obtain rfl : k = N.n := by omega
      go_wp2_with fail
      go_quiet (fail)
      go_wp2_with fail
      go_ret
      rw [hM.out]
      exact ⟨rfl, nq, rfl⟩
end Go.Proofs.Ybulkdzjs.A

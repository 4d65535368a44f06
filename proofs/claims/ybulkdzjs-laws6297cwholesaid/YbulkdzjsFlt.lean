/- Plain facts on binary64 words that stand for whole numbers below 2^53: reading, rounding, difference, sum, order, sign. No Go in sight. -/
import Ieee.Arith
namespace Go.Proofs.Ybulkdzjs.Flt
open Ieee

/-- The place of the last digit of a subnormal number is -bias. -/
def bias : Nat := 1074
theorem least : Ieee.double.leastPlace = -(bias : Int) := by decide
theorem binade_eq : Ieee.double.binade = 4503599627370496 := by decide
theorem inf_eq : Ieee.double.infRung = 9218868437227405312 := by decide
theorem sign_eq : Ieee.double.signWeight = 9223372036854775808 := by decide
theorem frac_eq : Ieee.double.fractionBits = 52 := rfl
theorem bias_eq : bias = 1074 := rfl

def sg (s : Bool) : Int := if s then -1 else 1
theorem signed_eq (s : Bool) (m u : Nat) : Ieee.signed s m u = sg s * ((m * 2 ^ u : Nat) : Int) := by
  unfold Ieee.signed sg
  rw [Nat.shiftLeft_eq]
  cases s <;> simp

/-- The word w reads as a number whose value is the whole number z. -/
def Val (w : Nat) (z : Int) : Prop := ∃ s m p, Ieee.double.read w = .number s m p ∧ -(bias : Int) ≤ p ∧ sg s * ((m * 2 ^ (p + bias).toNat : Nat) : Int) = z * ((2 ^ bias : Nat) : Int)

theorem read_word (neg : Bool) (rung : Nat) (h : rung < 9218868437227405312) :
    Ieee.double.read (Ieee.double.word neg rung) =
      if rung < 4503599627370496 then .number neg rung (-(bias : Int)) else .number neg (4503599627370496 + rung % 4503599627370496) (-(bias : Int) + (rung / 4503599627370496 - 1 : Nat)) := by
  unfold Format.read Format.word
  rw [sign_eq, binade_eq, inf_eq, least]
  have h1 : (if neg = true then 9223372036854775808 + rung else rung) % 9223372036854775808 = rung := by cases neg <;> simp <;> omega
  have h2 : ((if neg = true then 9223372036854775808 + rung else rung) / 9223372036854775808 % 2 == 1) = neg := by
    cases neg
    · simp; omega
    · simp; omega
  simp only [h1, h2, h, if_true]

theorem log2_uniq {n k : Nat} (h1 : 2 ^ k ≤ n) (h2 : n < 2 ^ (k + 1)) : n.log2 = k := by
  have hn : n ≠ 0 := by
    have := Nat.two_pow_pos k
    omega
  have a := (Nat.le_log2 hn).2 h1
  have b := (Nat.log2_lt hn).2 h2
  omega
theorem log2_mul (n k : Nat) (hn : n ≠ 0) : (n * 2 ^ k).log2 = n.log2 + k := by
  apply log2_uniq
  · rw [Nat.pow_add]
    exact Nat.mul_le_mul_right _ (Nat.log2_self_le hn)
  · rw [show n.log2 + k + 1 = (n.log2 + 1) + k by omega, Nat.pow_add]
    exact Nat.mul_lt_mul_of_pos_right Nat.lt_log2_self (Nat.two_pow_pos k)

theorem cut_zero (neg : Bool) (n : Nat) : Toward.even.cut neg n 0 = n := by
  have h1 : n % 1 = 0 := Nat.mod_one n
  simp [Toward.cut, h1]

theorem cut_exact (neg : Bool) (q drop : Nat) (hq : q ≠ 0) : Toward.even.cut neg (q * 2 ^ drop) drop = q := by
  have hl : min drop ((q * 2 ^ drop).log2 + 2) = drop := by rw [log2_mul q drop hq]; omega
  unfold Toward.cut
  simp only [hl, Nat.one_shiftLeft]
  have hp := Nat.two_pow_pos drop
  rw [Nat.mul_div_cancel _ hp, Nat.mul_mod_left]
  have e1 : decide (2 ^ drop < 2 * 0) = false := by simp
  have e2 : (2 ^ drop == 2 * 0) = false := by simp
  rw [e1, e2]
  rfl

/-- A whole number below 2^53, whatever its digits' place, is written as it is. -/
theorem nearest_val (neg : Bool) (mag : Nat) (place : Int) (Z : Nat) (hZ : Z < 9007199254740992) (hp : -(bias : Int) ≤ place) (h : mag * 2 ^ (place + bias).toNat = Z * 2 ^ bias) :
    ∃ m' p', Ieee.double.read (Ieee.double.nearest neg mag place) = .number neg m' p' ∧ -(bias : Int) ≤ p' ∧ m' * 2 ^ (p' + bias).toNat = Z * 2 ^ bias := by
  by_cases h0 : mag = 0
  · subst h0
    refine ⟨0, -(bias : Int), ?_, by omega, by rw [Nat.zero_mul] at h ⊢; exact h⟩
    unfold Format.nearest
    rw [if_pos rfl, read_word _ _ (by omega), if_pos (by omega)]
  · have hb := Nat.two_pow_pos bias
    have hZ0 : Z ≠ 0 := by
      intro e
      rw [e, Nat.zero_mul] at h
      rcases Nat.mul_eq_zero.1 h with h | h
      · exact h0 h
      · have := Nat.two_pow_pos (place + bias).toNat; omega
    obtain ⟨e, he⟩ : ∃ e : Nat, (place + bias).toNat = e := ⟨_, rfl⟩
    rw [he] at h
    have hpl : place = (e : Int) - bias := by omega
    have hlog : mag.log2 + e = Z.log2 + bias := by
      rw [← log2_mul mag e h0, h, log2_mul Z bias hZ0]
    have hlz : Z.log2 < 53 := (Nat.log2_lt hZ0).2 (by omega)
    have hlast : max (place + (mag.log2 : Int) - 52) (-(bias : Int)) = (Z.log2 : Int) - 52 := by
      have := bias_eq
      omega
    -- the digits that are kept
    obtain ⟨kept, hkd, hk⟩ : ∃ kept : Nat, Toward.even.cut neg (mag <<< (place - ((Z.log2 : Int) - 52)).toNat) ((Z.log2 : Int) - 52 - place).toNat = kept ∧ kept * 2 ^ (Z.log2 + bias - 52) = Z * 2 ^ bias := by
      by_cases hc : (Z.log2 : Int) - 52 ≤ place
      · refine ⟨mag * 2 ^ (place - ((Z.log2 : Int) - 52)).toNat, ?_, ?_⟩
        · rw [show ((Z.log2 : Int) - 52 - place).toNat = 0 by omega, cut_zero, Nat.shiftLeft_eq]
        · rw [← h, Nat.mul_assoc, ← Nat.pow_add]
          congr 2
          have := bias_eq
          omega
      · have hd : ((Z.log2 : Int) - 52 - place).toNat = mag.log2 - 52 := by omega
        have hle : e + (mag.log2 - 52) ≤ bias := by omega
        have hm : mag = (Z * 2 ^ (bias - e - (mag.log2 - 52))) * 2 ^ (mag.log2 - 52) := by
          have h2 : mag * 2 ^ e = (Z * 2 ^ (bias - e - (mag.log2 - 52))) * 2 ^ (mag.log2 - 52) * 2 ^ e := by
            rw [h, Nat.mul_assoc, Nat.mul_assoc, ← Nat.pow_add, ← Nat.pow_add]
            congr 2
            omega
          exact Nat.eq_of_mul_eq_mul_right (Nat.two_pow_pos e) h2
        refine ⟨Z * 2 ^ (bias - e - (mag.log2 - 52)), ?_, ?_⟩
        · rw [show (place - ((Z.log2 : Int) - 52)).toNat = 0 by omega, Nat.shiftLeft_zero, hd]
          generalize hdr : mag.log2 - 52 = dr at hm
          rw [hm]
          exact cut_exact neg _ dr (Nat.mul_ne_zero hZ0 (by have := Nat.two_pow_pos (bias - e - dr); omega))
        · rw [Nat.mul_assoc, ← Nat.pow_add, show bias - e - (mag.log2 - 52) + (Z.log2 + bias - 52) = bias by have := bias_eq; omega]
    have hk0 : kept ≠ 0 := by
      intro e'
      rw [e', Nat.zero_mul] at hk
      rcases Nat.mul_eq_zero.1 hk.symm with h' | h' <;> omega
    have hkl : kept.log2 = 52 := by
      have e1 : (kept * 2 ^ (Z.log2 + bias - 52)).log2 = (Z * 2 ^ bias).log2 := by rw [hk]
      rw [log2_mul _ _ hk0, log2_mul _ _ hZ0] at e1
      have := bias_eq
      omega
    have hlo : 4503599627370496 ≤ kept := by
      have := Nat.log2_self_le hk0
      rw [hkl] at this
      exact this
    have hhi : kept < 9007199254740992 := by
      have := @Nat.lt_log2_self kept
      rw [hkl] at this
      exact this
    have hn : Ieee.double.nearest neg mag place = Ieee.double.word neg ((Z.log2 + bias - 52) * 4503599627370496 + kept) := by
      unfold Format.nearest
      rw [if_neg h0]
      simp only [frac_eq, least, binade_eq, inf_eq]
      rw [show ((52 : Nat) : Int) = 52 from rfl, hlast, hkd, show ((Z.log2 : Int) - 52 - -(bias : Int)).toNat = Z.log2 + bias - 52 by have := bias_eq; omega, Nat.min_eq_left (by have := bias_eq; omega)]
    refine ⟨kept, (Z.log2 : Int) - 52, ?_, by have := bias_eq; omega, ?_⟩
    · rw [hn, read_word _ _ (by have := bias_eq; omega), if_neg (by have := bias_eq; omega)]
      have e1 : 4503599627370496 + ((Z.log2 + bias - 52) * 4503599627370496 + kept) % 4503599627370496 = kept := by omega
      have e2 : -(bias : Int) + ((((Z.log2 + bias - 52) * 4503599627370496 + kept) / 4503599627370496 - 1 : Nat) : Int) = (Z.log2 : Int) - 52 := by have := bias_eq; omega
      rw [e1, e2]
    · rw [show ((Z.log2 : Int) - 52 + bias).toNat = Z.log2 + bias - 52 by have := bias_eq; omega]
      exact hk

theorem mul_pow_split (c : Int) (m : Nat) (i base : Int) (hb : -(bias : Int) ≤ base) (hi : base ≤ i) :
    c * ((m * 2 ^ (i - base).toNat : Nat) : Int) * ((2 ^ (base + bias).toNat : Nat) : Int) = c * ((m * 2 ^ (i + bias).toNat : Nat) : Int) := by
  rw [Int.mul_assoc, ← Int.natCast_mul, Nat.mul_assoc, ← Nat.pow_add, show (i - base).toNat + (base + bias).toNat = (i + bias).toNat by omega]

theorem natAbs_scaled {t z : Int} {k : Nat} (h : t * ((2 ^ k : Nat) : Int) = z * ((2 ^ bias : Nat) : Int)) : t.natAbs * 2 ^ k = z.natAbs * 2 ^ bias := by
  have := congrArg Int.natAbs h
  rw [Int.natAbs_mul, Int.natAbs_mul, Int.natAbs_natCast, Int.natAbs_natCast] at this
  exact this

theorem sign_scaled {t z : Int} {k : Nat} (h : t * ((2 ^ k : Nat) : Int) = z * ((2 ^ bias : Nat) : Int)) : (t < 0 ↔ z < 0) ∧ (t = 0 ↔ z = 0) := by
  have h1 : (0 : Int) < ((2 ^ k : Nat) : Int) := by have := Nat.two_pow_pos k; omega
  have h2 : (0 : Int) < ((2 ^ bias : Nat) : Int) := by have := Nat.two_pow_pos bias; omega
  generalize ((2 ^ k : Nat) : Int) = a at *
  generalize ((2 ^ bias : Nat) : Int) = b at *
  refine ⟨⟨fun ht => ?_, fun hz => ?_⟩, ⟨fun ht => ?_, fun hz => ?_⟩⟩
  · have := Int.mul_neg_of_neg_of_pos ht h1
    rw [h] at this
    exact Int.neg_of_mul_neg_left this h2
  · have := Int.mul_neg_of_neg_of_pos hz h2
    rw [← h] at this
    exact Int.neg_of_mul_neg_left this h1
  · rw [ht, Int.zero_mul] at h
    rcases Int.mul_eq_zero.1 h.symm with h | h <;> omega
  · rw [hz, Int.zero_mul] at h
    rcases Int.mul_eq_zero.1 h with h | h <;> omega

/-- The exact sum of two whole numbers, written: the whole number again. -/
theorem sum_val {s t : Bool} {m n : Nat} {i j x y : Int} (hi : -(bias : Int) ≤ i) (hj : -(bias : Int) ≤ j) (hx : sg s * ((m * 2 ^ (i + bias).toNat : Nat) : Int) = x * ((2 ^ bias : Nat) : Int)) (hy : sg t * ((n * 2 ^ (j + bias).toNat : Nat) : Int) = y * ((2 ^ bias : Nat) : Int))
    (hz : (x + y).natAbs < 9007199254740992) : ∃ r, ((Datum.number s m i).sum (.number t n j)).map Ieee.double.write = some r ∧ Val r (x + y) := by
  have hb : -(bias : Int) ≤ min i j := by omega
  have htot : (Ieee.signed s m (i - min i j).toNat + Ieee.signed t n (j - min i j).toNat) * ((2 ^ (min i j + bias).toNat : Nat) : Int) = (x + y) * ((2 ^ bias : Nat) : Int) := by
    rw [signed_eq, signed_eq, Int.add_mul, mul_pow_split _ _ _ _ hb (by omega), mul_pow_split _ _ _ _ hb (by omega), hx, hy, Int.add_mul]
  refine ⟨_, rfl, ?_⟩
  show Val (Ieee.double.nearest _ _ _) _
  generalize Ieee.signed s m (i - min i j).toNat + Ieee.signed t n (j - min i j).toNat = total at htot ⊢
  obtain ⟨m', p', hr, hp', hm'⟩ := nearest_val (if total = 0 then s && t else decide (total < 0)) total.natAbs (min i j) (x + y).natAbs hz hb (natAbs_scaled htot)
  refine ⟨_, m', p', hr, hp', ?_⟩
  rw [hm']
  obtain ⟨sn, sz⟩ := sign_scaled htot
  by_cases h0 : total = 0
  · rw [sz.1 h0]
    simp
  · rw [if_neg h0]
    have hz0 : x + y ≠ 0 := fun e => h0 (sz.2 e)
    rw [Int.natCast_mul, ← Int.mul_assoc]
    congr 1
    unfold sg
    by_cases hn : total < 0
    · have := sn.1 hn
      simp [hn]; omega
    · have : ¬ (x + y < 0) := fun e => hn (sn.2 e)
      simp [hn]; omega

theorem val_add {a b : Nat} {x y : Int} (ha : Val a x) (hb : Val b y) (hz : (x + y).natAbs < 9007199254740992) : ∃ r, Ieee.double.add a b = some r ∧ Val r (x + y) := by
  obtain ⟨s, m, i, h1, h2, h3⟩ := ha
  obtain ⟨t, n, j, k1, k2, k3⟩ := hb
  unfold Format.add
  rw [h1, k1]
  exact sum_val h2 k2 h3 k3 hz
theorem val_sub {a b : Nat} {x y : Int} (ha : Val a x) (hb : Val b y) (hz : (x - y).natAbs < 9007199254740992) : ∃ r, Ieee.double.sub a b = some r ∧ Val r (x - y) := by
  obtain ⟨s, m, i, h1, h2, h3⟩ := ha
  obtain ⟨t, n, j, k1, k2, k3⟩ := hb
  unfold Format.sub
  rw [h1, k1]
  have e : sg (!t) * ((n * 2 ^ (j + bias).toNat : Nat) : Int) = (-y) * ((2 ^ bias : Nat) : Int) := by
    rw [Int.neg_mul, ← k3, ← Int.neg_mul]
    congr 1
    cases t <;> rfl
  have := sum_val (s := s) (t := !t) h2 k2 h3 e (by rw [← Int.sub_eq_add_neg]; exact hz)
  rw [← Int.sub_eq_add_neg] at this
  exact this

theorem compare_scaled {p q x y a b : Int} (ha : 0 < a) (hb : 0 < b) (hp : p * a = x * b) (hq : q * a = y * b) : compare p q = compare x y := by
  have h1 : p < q ↔ x < y := by
    constructor
    · intro h
      have := Int.mul_lt_mul_of_pos_right h ha
      rw [hp, hq] at this
      exact Int.lt_of_mul_lt_mul_right this (Int.le_of_lt hb)
    · intro h
      have := Int.mul_lt_mul_of_pos_right h hb
      rw [← hp, ← hq] at this
      exact Int.lt_of_mul_lt_mul_right this (Int.le_of_lt ha)
  have h2 : p = q ↔ x = y := by
    constructor
    · intro h
      rw [h, hq] at hp
      exact (Int.eq_of_mul_eq_mul_right (by omega) hp).symm
    · intro h
      rw [h, ← hq] at hp
      exact Int.eq_of_mul_eq_mul_right (by omega) hp
  show compareOfLessAndEq p q = compareOfLessAndEq x y
  unfold compareOfLessAndEq
  by_cases hlt : p < q
  · rw [if_pos hlt, if_pos (h1.1 hlt)]
  · rw [if_neg hlt, if_neg (fun e => hlt (h1.2 e))]
    by_cases he : p = q
    · rw [if_pos he, if_pos (h2.1 he)]
    · rw [if_neg he, if_neg (fun e => he (h2.2 e))]

theorem val_order {a b : Nat} {x y : Int} (ha : Val a x) (hb : Val b y) : Ieee.double.order a b = some (compare x y) := by
  obtain ⟨s, m, i, h1, h2, h3⟩ := ha
  obtain ⟨t, n, j, k1, k2, k3⟩ := hb
  unfold Format.order
  rw [h1, k1]
  show some (compare _ _) = _
  congr 1
  have hb' : -(bias : Int) ≤ min i j := by omega
  refine compare_scaled (a := ((2 ^ (min i j + bias).toNat : Nat) : Int)) (b := ((2 ^ bias : Nat) : Int)) (by have := Nat.two_pow_pos (min i j + bias).toNat; omega) (by have := Nat.two_pow_pos bias; omega) ?_ ?_
  · rw [signed_eq, mul_pow_split _ _ _ _ hb' (by omega), h3]
  · rw [signed_eq, mul_pow_split _ _ _ _ hb' (by omega), k3]

theorem order_lt {a b : Nat} {x y : Int} (ha : Val a x) (hb : Val b y) : (Ieee.double.order a b == some .lt) = decide (x < y) := by
  rw [val_order ha hb, Bool.eq_iff_iff]
  simp [Int.compare_eq_lt]
theorem order_eq {a b : Nat} {x y : Int} (ha : Val a x) (hb : Val b y) : (Ieee.double.order a b == some .eq) = decide (x = y) := by
  rw [val_order ha hb, Bool.eq_iff_iff]
  simp
theorem order_ge {a b : Nat} {x y : Int} (ha : Val a x) (hb : Val b y) : (Ieee.double.order a b == some .gt || Ieee.double.order a b == some .eq) = decide (y ≤ x) := by
  rw [val_order ha hb, Bool.eq_iff_iff]
  simp [Int.compare_eq_gt]
  omega

/-- What a word reads as without its sign bit. -/
theorem read_low {a : Nat} {s : Bool} {m : Nat} {p : Int} (h : Ieee.double.read a = .number s m p) : Ieee.double.read (a % 9223372036854775808) = .number false m p := by
  unfold Format.read at h ⊢
  rw [sign_eq] at h ⊢
  have e1 : a % 9223372036854775808 % 9223372036854775808 = a % 9223372036854775808 := by omega
  have e2 : (a % 9223372036854775808 / 9223372036854775808 % 2 == 1) = false := by simp
  simp only [e1, e2] at h ⊢
  split at h
  · rename_i hc; rw [if_pos hc]; cases h; rfl
  · rename_i hc
    rw [if_neg hc]
    split at h
    · rename_i hd; rw [if_pos hd]; cases h; rfl
    · split at h <;> cases h
theorem val_abs {a : Nat} {x : Int} (h : Val a x) : Val (a % 9223372036854775808) (if x < 0 then -x else x) := by
  obtain ⟨s, m, p, h1, h2, h3⟩ := h
  refine ⟨false, m, p, read_low h1, h2, ?_⟩
  have hb : (0 : Int) < ((2 ^ bias : Nat) : Int) := by have := Nat.two_pow_pos bias; omega
  have hm : (0 : Int) ≤ ((m * 2 ^ (p + bias).toNat : Nat) : Int) := by omega
  generalize ((m * 2 ^ (p + bias).toNat : Nat) : Int) = u at h3 hm ⊢
  generalize ((2 ^ bias : Nat) : Int) = b at h3 hb ⊢
  unfold sg at h3 ⊢
  by_cases hx : x < 0
  · rw [if_pos hx]
    have := Int.mul_neg_of_neg_of_pos hx hb
    cases s
    · simp at h3; omega
    · simp at h3 ⊢; rw [Int.neg_mul]; omega
  · rw [if_neg hx]
    have := Int.mul_nonneg (show 0 ≤ x by omega) (Int.le_of_lt hb)
    cases s
    · simp at h3 ⊢; exact h3
    · simp at h3 ⊢; omega

/-- The sign bit turned. -/
theorem read_flip {a : Nat} (ha : a < 18446744073709551616) {s : Bool} {m : Nat} {p : Int} (h : Ieee.double.read a = .number s m p) : Ieee.double.read (if a < 9223372036854775808 then a + 9223372036854775808 else a - 9223372036854775808) = .number (!s) m p := by
  unfold Format.read at h ⊢
  rw [sign_eq] at h ⊢
  have e1 : (if a < 9223372036854775808 then a + 9223372036854775808 else a - 9223372036854775808) % 9223372036854775808 = a % 9223372036854775808 := by split <;> omega
  have e2 : ((if a < 9223372036854775808 then a + 9223372036854775808 else a - 9223372036854775808) / 9223372036854775808 % 2 == 1) = !(a / 9223372036854775808 % 2 == 1) := by
    rw [Bool.eq_iff_iff]; simp; split <;> omega
  simp only [e1, e2] at h ⊢
  split at h
  · rename_i hc; rw [if_pos hc]; cases h; rfl
  · rename_i hc
    rw [if_neg hc]
    split at h
    · rename_i hd; rw [if_pos hd]; cases h; rfl
    · split at h <;> cases h
theorem val_flip {a : Nat} (ha : a < 18446744073709551616) {x : Int} (h : Val a x) : Val (if a < 9223372036854775808 then a + 9223372036854775808 else a - 9223372036854775808) (-x) := by
  obtain ⟨s, m, p, h1, h2, h3⟩ := h
  refine ⟨!s, m, p, read_flip ha h1, h2, ?_⟩
  rw [Int.neg_mul, ← h3, ← Int.neg_mul]
  congr 1
  cases s <;> rfl

/-- 'float64(n)'. -/
theorem val_int (n : Int) (h : n.natAbs < 9007199254740992) : Val (Ieee.double.write (.number (decide (n < 0)) n.natAbs 0)) n := by
  obtain ⟨m', p', hr, hp', hm'⟩ := nearest_val (decide (n < 0)) n.natAbs 0 n.natAbs h (by omega) (by rw [show ((0 : Int) + bias).toNat = bias by omega])
  refine ⟨_, m', p', hr, hp', ?_⟩
  rw [hm', Int.natCast_mul, ← Int.mul_assoc]
  congr 1
  unfold sg
  by_cases hn : n < 0 <;> simp [hn] <;> omega
theorem val_zero : Val 0 0 := ⟨false, 0, -(bias : Int), rfl, by omega, by simp⟩
end Go.Proofs.Ybulkdzjs.Flt

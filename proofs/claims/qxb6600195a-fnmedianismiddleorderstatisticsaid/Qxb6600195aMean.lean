/-
  The mean of two finite floats lies between them. Plain mathematics.
-/
import Derived.Test.Qxb6600195aRound
namespace Go.Proofs.Qxb6600195a
open Ieee

/-- A rung's digits and place; its magnitude in units of 2^L. -/
def mOf (r : Nat) : Nat := if r < 4503599627370496 then r else 4503599627370496 + r % 4503599627370496
def iOf (r : Nat) : Int := if r < 4503599627370496 then L else L + ((r / 4503599627370496 - 1 : Nat) : Int)
def valR (r : Nat) : Nat := mOf r * 2 ^ (iOf r - L).toNat

theorem iOf_ge (r : Nat) : L ≤ iOf r := by unfold iOf; split <;> omega
theorem mOf_lt (r : Nat) : mOf r < 2 * 4503599627370496 := by unfold mOf; split <;> omega
theorem mOf_norm (r : Nat) : 4503599627370496 ≤ mOf r ∨ iOf r = L := by
  unfold mOf iOf
  split
  · exact .inr rfl
  · exact .inl (by omega)
theorem rung_is (r : Nat) : (iOf r - L).toNat * 4503599627370496 + mOf r = r := by
  unfold mOf iOf
  split
  · rename_i h
    rw [Int.sub_self]
    simp
  · rename_i h
    have : (L + ((r / 4503599627370496 - 1 : Nat) : Int) - L).toNat = r / 4503599627370496 - 1 := by omega
    rw [this]
    have h1 : 1 ≤ r / 4503599627370496 := by omega
    have h2 := Nat.div_add_mod r 4503599627370496
    have h3 : (r / 4503599627370496 - 1) * 4503599627370496 + 4503599627370496 = 4503599627370496 * (r / 4503599627370496) := by
      rw [Nat.mul_comm 4503599627370496, ← Nat.succ_mul]
      congr 1
      omega
    omega

theorem valR_mono {r t : Nat} (h : r ≤ t) : valR r ≤ valR t := by
  have er := rung_is r
  have et := rung_is t
  have ir := iOf_ge r
  have it := iOf_ge t
  have mr := mOf_lt r
  have mt := mOf_lt t
  have nr := mOf_norm r
  have nt := mOf_norm t
  unfold valR
  rcases Int.lt_trichotomy (iOf r) (iOf t) with hlt | heq | hgt
  · have hB : 4503599627370496 ≤ mOf t := by rcases nt with h1 | h1; exact h1; omega
    have e : (iOf t - L).toNat = (iOf r - L).toNat + 1 + ((iOf t - L).toNat - (iOf r - L).toNat - 1) := by omega
    rw [e, Nat.pow_add, Nat.pow_add, Nat.pow_one]
    have h1 : mOf r * 2 ^ (iOf r - L).toNat ≤ (2 * 4503599627370496) * 2 ^ (iOf r - L).toNat := Nat.mul_le_mul_right _ (Nat.le_of_lt mr)
    have h2 : 4503599627370496 * (2 ^ (iOf r - L).toNat * 2 * 1) ≤ mOf t * (2 ^ (iOf r - L).toNat * 2 * 2 ^ ((iOf t - L).toNat - (iOf r - L).toNat - 1)) := Nat.mul_le_mul hB (Nat.mul_le_mul_left _ (Nat.two_pow_pos _))
    have h3 : (2 * 4503599627370496) * 2 ^ (iOf r - L).toNat = 4503599627370496 * (2 ^ (iOf r - L).toNat * 2 * 1) := by
      rw [Nat.mul_one, Nat.mul_comm 2 4503599627370496, Nat.mul_assoc, Nat.mul_comm 2]
    omega
  · rw [heq]
    rw [heq] at er
    exact Nat.mul_le_mul_right _ (by omega)
  · exfalso
    have hB : 4503599627370496 ≤ mOf r := by rcases nr with h1 | h1; exact h1; omega
    have hn : (iOf t - L).toNat + 1 ≤ (iOf r - L).toNat := by omega
    have := Nat.mul_le_mul_right 4503599627370496 hn
    rw [Nat.add_mul, Nat.one_mul] at this
    omega

/-- Twice a magnitude that is not too great is a magnitude too. -/
theorem valR_double (r : Nat) (h : r ≤ 9213374311785329715) : ∃ t, t < 9218868437227405312 ∧ valR t = 2 * valR r := by
  by_cases h1 : r < 4503599627370496
  · refine ⟨2 * r, by omega, ?_⟩
    have e1 : valR r = r := by unfold valR mOf iOf; rw [if_pos h1, if_pos h1, Int.sub_self]; simp
    rw [e1]
    by_cases h2 : 2 * r < 4503599627370496
    · unfold valR mOf iOf; rw [if_pos h2, if_pos h2, Int.sub_self]; simp
    · unfold valR mOf iOf
      rw [if_neg h2, if_neg h2]
      have h3 : 2 * r / 4503599627370496 = 1 := by omega
      rw [h3]
      have h4 : 2 * r % 4503599627370496 = 2 * r - 4503599627370496 := by omega
      rw [h4]
      have h5 : (L + ((1 - 1 : Nat) : Int) - L).toNat = 0 := by omega
      rw [h5]
      omega
  · refine ⟨r + 4503599627370496, by omega, ?_⟩
    unfold valR mOf iOf
    rw [if_neg h1, if_neg h1, if_neg (by omega), if_neg (by omega)]
    have h2 : (r + 4503599627370496) % 4503599627370496 = r % 4503599627370496 := Nat.add_mod_right _ _
    have h3 : (r + 4503599627370496) / 4503599627370496 = r / 4503599627370496 + 1 := Nat.add_div_right _ (by decide)
    rw [h2, h3]
    have h4 : (L + ((r / 4503599627370496 + 1 - 1 : Nat) : Int) - L).toNat = (L + ((r / 4503599627370496 - 1 : Nat) : Int) - L).toNat + 1 := by omega
    rw [h4, Nat.pow_succ]
    rw [← Nat.mul_assoc, Nat.mul_comm]

/-- The value of a sign and a rung. -/
def sgn (neg : Bool) (n : Nat) : Int := if neg then -(n : Int) else (n : Int)

theorem read_fin (x : Nat) (h : x % 9223372036854775808 < 9218868437227405312) : Ieee.double.read x = .number (x / 9223372036854775808 % 2 == 1) (mOf (x % 9223372036854775808)) (iOf (x % 9223372036854775808)) := by
  rw [read_eq]
  unfold mOf iOf
  split
  · rfl
  · first
      | rfl
      | rw [if_pos h]

theorem key_fin (x : Nat) (h : x % 9223372036854775808 < 9218868437227405312) : key x = (0, sgn (x / 9223372036854775808 % 2 == 1) (valR (x % 9223372036854775808))) := by
  unfold key
  rw [read_fin x h]
  simp only [dkey, signed, sgn, valR, Nat.shiftLeft_eq]

theorem fin_of_key (x : Nat) (h : (key x).1 = 0) : x % 9223372036854775808 < 9218868437227405312 := by
  rcases Nat.lt_or_ge (x % 9223372036854775808) 9218868437227405312 with h1 | h1
  · exact h1
  · exfalso
    unfold key at h
    rw [read_eq, if_neg (by omega), if_neg (by omega)] at h
    split at h
    · simp only [dkey] at h; split at h <;> simp at h
    · simp [dkey] at h

theorem key_word (neg : Bool) (r : Nat) (h : r < 9218868437227405312) : key (Ieee.double.word neg r) = (0, sgn neg (valR r)) := by
  have e : Ieee.double.word neg r % 9223372036854775808 = r := word_mod neg r (by omega)
  have e2 : (Ieee.double.word neg r / 9223372036854775808 % 2 == 1) = neg := by
    unfold Format.word
    cases neg
    · show (r / 9223372036854775808 % 2 == 1) = false
      rw [beq_eq_false_iff_ne]; omega
    · show ((9223372036854775808 + r) / 9223372036854775808 % 2 == 1) = true
      rw [beq_iff_eq]; omega
  rw [key_fin _ (by rw [e]; exact h), e, e2]

theorem leP_of_base {mag m : Nat} {p i b : Int} (h1 : b ≤ p) (h2 : b ≤ i) (h : mag * 2 ^ (p - b).toNat ≤ m * 2 ^ (i - b).toNat) : leP mag p m i := by
  unfold leP
  rcases Int.le_total i p with hc | hc
  · have e1 : (i - p).toNat = 0 := by omega
    have e2 : (p - b).toNat = (p - i).toNat + (i - b).toNat := by omega
    rw [e1, Nat.pow_zero, Nat.mul_one]
    rw [e2, Nat.pow_add, ← Nat.mul_assoc] at h
    exact Nat.le_of_mul_le_mul_right h (Nat.two_pow_pos _)
  · have e1 : (p - i).toNat = 0 := by omega
    have e2 : (i - b).toNat = (i - p).toNat + (p - b).toNat := by omega
    rw [e1, Nat.pow_zero, Nat.mul_one]
    rw [e2, Nat.pow_add, ← Nat.mul_assoc] at h
    exact Nat.le_of_mul_le_mul_right h (Nat.two_pow_pos _)

theorem mag_hi {neg : Bool} {mag r : Nat} {place b : Int} (h1 : b ≤ place) (h2 : b ≤ L) (h : mag * 2 ^ (place - b).toNat ≤ valR r * 2 ^ (L - b).toNat) : rungOf neg mag place ≤ r := by
  have hi := iOf_ge r
  have := rung_le neg mag place (mOf r) (iOf r) hi (mOf_lt r) (mOf_norm r) (leP_of_base (b := b) h1 (by omega) (by
    have e : (iOf r - b).toNat = (iOf r - L).toNat + (L - b).toNat := by omega
    rw [e, Nat.pow_add, ← Nat.mul_assoc]
    exact h))
  rwa [rung_is] at this

theorem mag_lo {neg : Bool} {mag r : Nat} {place b : Int} (hm : mag ≠ 0) (hr : r ≤ 9218868437227405312) (h1 : b ≤ place) (h2 : b ≤ L) (h : valR r * 2 ^ (L - b).toNat ≤ mag * 2 ^ (place - b).toNat) : r ≤ rungOf neg mag place := by
  have hi := iOf_ge r
  have e0 := rung_is r
  have := rung_ge neg mag hm place (mOf r) (iOf r) hi (mOf_lt r) (mOf_norm r) (Nat.le_trans (Nat.le_of_eq e0) hr) (leP_of_base (b := b) (by omega) h1 (by
    have e : (iOf r - b).toNat = (iOf r - L).toNat + (L - b).toNat := by omega
    rw [e, Nat.pow_add, ← Nat.mul_assoc]
    exact h))
  rwa [rung_is] at this

/-- ROUNDING BETWEEN TWO NUMBERS OF THE FORMAT: an exact number between them (in units of 2^b) is rounded to one between them. -/
theorem round_between (neg : Bool) (mag : Nat) (place b : Int) (s1 s2 : Bool) (r1 r2 : Nat) (f1 : r1 < 9218868437227405312) (f2 : r2 < 9218868437227405312) (h1 : b ≤ place) (h2 : b ≤ L)
    (lo : sgn s1 (valR r1) * 2 ^ (L - b).toNat ≤ sgn neg (mag * 2 ^ (place - b).toNat)) (hi : sgn neg (mag * 2 ^ (place - b).toNat) ≤ sgn s2 (valR r2) * 2 ^ (L - b).toNat) :
    ∃ v, key (Ieee.double.nearest neg mag place) = (0, v) ∧ sgn s1 (valR r1) ≤ v ∧ v ≤ sgn s2 (valR r2) := by
  rw [nearest_eq]
  have hp : 0 < 2 ^ (L - b).toNat := Nat.two_pow_pos _
  have hpi : (0 : Int) < ((2 ^ (L - b).toNat : Nat) : Int) := by omega
  -- whatever sign: the magnitude is bounded by the one of the two that lies on that side
  have up : ∀ r, r < 9218868437227405312 → mag * 2 ^ (place - b).toNat ≤ valR r * 2 ^ (L - b).toNat → rungOf neg mag place ≤ r := fun r _ h => mag_hi h1 h2 h
  have dn : ∀ r, r < 9218868437227405312 → valR r * 2 ^ (L - b).toNat ≤ mag * 2 ^ (place - b).toNat → valR r ≤ valR (rungOf neg mag place) ∨ valR r = 0 := fun r hr h => by
    by_cases hm : mag = 0
    · right
      rw [hm, Nat.zero_mul] at h
      rcases Nat.mul_eq_zero.1 (Nat.le_zero.1 h) with h | h
      · exact h
      · omega
    · exact .inl (valR_mono (mag_lo hm (by omega) h1 h2 h))
  generalize rungOf neg mag place = R at *
  generalize hX : mag * 2 ^ (place - b).toNat = X at *
  have e1 : sgn s1 (valR r1) * 2 ^ (L - b).toNat = sgn s1 (valR r1 * 2 ^ (L - b).toNat) := by
    unfold sgn; split <;> simp [Int.neg_mul]
  have e2 : sgn s2 (valR r2) * 2 ^ (L - b).toNat = sgn s2 (valR r2 * 2 ^ (L - b).toNat) := by
    unfold sgn; split <;> simp [Int.neg_mul]
  rw [e1] at lo
  rw [e2] at hi
  have z1 : ∀ n : Nat, n * 2 ^ (L - b).toNat = 0 → n = 0 := fun n h => by
    rcases Nat.mul_eq_zero.1 h with h | h
    · exact h
    · omega
  have c1 := z1 (valR r1)
  have c2 := z1 (valR r2)
  generalize hA : valR r1 * 2 ^ (L - b).toNat = A at *
  generalize hC : valR r2 * 2 ^ (L - b).toNat = C at *
  cases neg with
  | false =>
    -- X ≥ 0: it is bounded by the upper one
    have hXC : X ≤ C := by
      cases s2 <;> simp only [sgn, Bool.false_eq_true, if_true, if_false] at hi <;> omega
    have hR : R ≤ r2 := up r2 f2 (by omega)
    have hV := valR_mono hR
    refine ⟨_, key_word false R (by omega), ?_, ?_⟩
    · cases s1 with
      | true => simp only [sgn, if_true, Bool.false_eq_true, if_false]; omega
      | false =>
        simp only [sgn, Bool.false_eq_true, if_false] at lo ⊢
        rcases dn r1 f1 (by omega) with h | h <;> omega
    · cases s2 with
      | false => simp only [sgn, Bool.false_eq_true, if_false]; omega
      | true =>
        simp only [sgn, if_true, Bool.false_eq_true, if_false] at hi ⊢
        have : C = 0 := by omega
        have := c2 this
        omega
  | true =>
    have hXA : X ≤ A := by
      cases s1 <;> simp only [sgn, Bool.false_eq_true, if_true, if_false] at lo <;> omega
    have hR : R ≤ r1 := up r1 f1 (by omega)
    have hV := valR_mono hR
    refine ⟨_, key_word true R (by omega), ?_, ?_⟩
    · cases s1 with
      | true => simp only [sgn, if_true]; omega
      | false =>
        simp only [sgn, if_true, Bool.false_eq_true, if_false] at lo ⊢
        have : A = 0 := by omega
        have := c1 this
        omega
    · cases s2 with
      | false => simp only [sgn, if_true, Bool.false_eq_true, if_false]; omega
      | true =>
        simp only [sgn, if_true] at hi ⊢
        rcases dn r2 f2 (by omega) with h | h <;> omega

end Go.Proofs.Qxb6600195a

/-
  Rounding to nearest, against a number that the format has: what is not above it is not rounded above it, what is not below it is not rounded below it. Plain mathematics.
-/
import Derived.Test.Qxb6600195aNum
namespace Go.Proofs.Qxb6600195a
open Ieee

theorem gap_eq (n d : Nat) : ∃ e, e ≤ d ∧ (1 <<< min d (n.log2 + 2)) = 2 ^ e ∧ (e = d ∨ 2 * n < 2 ^ e) := by
  refine ⟨min d (n.log2 + 2), Nat.min_le_left _ _, Nat.one_shiftLeft _, ?_⟩
  by_cases h : d ≤ n.log2 + 2
  · exact .inl (Nat.min_eq_left h)
  · rw [Nat.min_eq_right (by omega)]
    right
    have := Nat.lt_log2_self (n := n)
    rw [Nat.pow_succ, Nat.pow_succ] 
    rw [Nat.pow_succ] at this
    omega
theorem cut_le (neg : Bool) (n d m : Nat) (h : n ≤ m * 2 ^ d) : Toward.even.cut neg n d ≤ m := by
  obtain ⟨e, he, hg, hc⟩ := gap_eq n d
  unfold Toward.cut
  simp only [hg]
  have hp : 0 < 2 ^ e := Nat.two_pow_pos e
  have hdm := Nat.div_add_mod n (2 ^ e)
  have hml := Nat.mod_lt n hp
  generalize hq : n / 2 ^ e = q at *
  generalize hr : n % 2 ^ e = r at *
  rcases hc with rfl | hc
  · -- the whole of it
    rcases Nat.lt_or_ge q m with hqm | hqm
    · cases (decide (2 ^ e < 2 * r) || 2 ^ e == 2 * r && q % 2 == 1) <;> simp [Bool.toNat] <;> omega
    · have hle : m * 2 ^ e ≤ q * 2 ^ e := Nat.mul_le_mul_right _ hqm
      rw [Nat.mul_comm (2 ^ e) q] at hdm
      have hr0 : r = 0 := by omega
      have hqe : q * 2 ^ e = m * 2 ^ e := by omega
      have : q = m := Nat.eq_of_mul_eq_mul_right hp hqe
      subst hr0
      have hz : (2 ^ e == 0) = false := beq_eq_false_iff_ne.2 (by omega)
      simp [this, hz]
  · have hq0 : q = 0 := by rw [← hq]; exact Nat.div_eq_of_lt (by omega)
    have hrn : r = n := by rw [hq0] at hdm; omega
    subst hq0 hrn
    have h1 : ¬ 2 ^ e < 2 * r := by omega
    have h2 : ¬ (2 ^ e = 2 * r) := by omega
    simp [h1]
theorem cut_ge (neg : Bool) (n d m : Nat) (h : m * 2 ^ d ≤ n) : m ≤ Toward.even.cut neg n d := by
  obtain ⟨e, he, hg, hc⟩ := gap_eq n d
  unfold Toward.cut
  simp only [hg]
  have hle : m * 2 ^ e ≤ n := Nat.le_trans (Nat.mul_le_mul_left m (Nat.pow_le_pow_right (by decide) he)) h
  have := (Nat.le_div_iff_mul_le (Nat.two_pow_pos e)).2 hle
  omega

/-- 2^52. -/
abbrev B52 : Nat := 4503599627370496
theorem B52_eq : B52 = 2 ^ 52 := by decide

/-- The rung that 'mag * 2^place' is rounded to. -/
def rungOf (neg : Bool) (mag : Nat) (place : Int) : Nat :=
  if mag = 0 then 0 else min ((max (place + mag.log2 - 52) L - L).toNat * B52 + Toward.even.cut neg (mag <<< (place - max (place + mag.log2 - 52) L).toNat) (max (place + mag.log2 - 52) L - place).toNat) 9218868437227405312

theorem nearest_eq (neg : Bool) (mag : Nat) (place : Int) : Ieee.double.nearest neg mag place = Ieee.double.word neg (rungOf neg mag place) := by
  unfold Format.nearest rungOf
  by_cases h : mag = 0
  · rw [if_pos h, if_pos h]
  · rw [if_neg h, if_neg h]
    rfl

theorem kept_hi (neg : Bool) (mag : Nat) (place l : Int) (hl : place + mag.log2 - 52 ≤ l) : Toward.even.cut neg (mag <<< (place - l).toNat) (l - place).toNat ≤ 2 * B52 := by
  refine cut_le _ _ _ _ ?_
  rw [Nat.shiftLeft_eq, B52_eq, ← Nat.pow_succ']
  have h1 : mag < 2 ^ (mag.log2 + 1) := Nat.lt_log2_self
  have h2 : mag * 2 ^ (place - l).toNat ≤ 2 ^ (mag.log2 + 1) * 2 ^ (place - l).toNat := Nat.mul_le_mul_right _ (Nat.le_of_lt h1)
  refine Nat.le_trans h2 ?_
  rw [← Nat.pow_add, ← Nat.pow_add]
  exact Nat.pow_le_pow_right (by decide) (by omega)

theorem kept_lo (neg : Bool) (mag : Nat) (hm : mag ≠ 0) (place l : Int) (hl : l ≤ place + mag.log2 - 52) : B52 ≤ Toward.even.cut neg (mag <<< (place - l).toNat) (l - place).toNat := by
  refine cut_ge _ _ _ _ ?_
  rw [Nat.shiftLeft_eq, B52_eq]
  have h1 : 2 ^ mag.log2 ≤ mag := Nat.log2_self_le hm
  have h2 : 2 ^ mag.log2 * 2 ^ (place - l).toNat ≤ mag * 2 ^ (place - l).toNat := Nat.mul_le_mul_right _ h1
  refine Nat.le_trans ?_ h2
  rw [← Nat.pow_add, ← Nat.pow_add]
  exact Nat.pow_le_pow_right (by decide) (by omega)

/-- 'mag * 2^p ≤ m * 2^i'. -/
def leP (mag : Nat) (p : Int) (m : Nat) (i : Int) : Prop := mag * 2 ^ (p - i).toNat ≤ m * 2 ^ (i - p).toNat

theorem rung_le (neg : Bool) (mag : Nat) (place : Int) (m : Nat) (i : Int) (hi : L ≤ i) (hm : m < 2 * B52) (hb : B52 ≤ m ∨ i = L) (h : leP mag place m i) : rungOf neg mag place ≤ (i - L).toNat * B52 + m := by
  unfold rungOf
  split
  · exact Nat.zero_le _
  · rename_i h0
    refine Nat.le_trans (Nat.min_le_left _ _) ?_
    have hlog : place + mag.log2 ≤ i + 52 := by
      by_cases hc : place + mag.log2 ≤ i + 52
      · exact hc
      · exfalso
        have h1 : 2 ^ mag.log2 ≤ mag := Nat.log2_self_le h0
        have h2 : 2 ^ mag.log2 * 2 ^ (place - i).toNat ≤ mag * 2 ^ (place - i).toNat := Nat.mul_le_mul_right _ h1
        have h3 : m * 2 ^ (i - place).toNat < 2 ^ 53 * 2 ^ (i - place).toNat := Nat.mul_lt_mul_of_pos_right (by omega) (Nat.two_pow_pos _)
        have h4 : 2 ^ 53 * 2 ^ (i - place).toNat ≤ 2 ^ mag.log2 * 2 ^ (place - i).toNat := by
          rw [← Nat.pow_add, ← Nat.pow_add]
          exact Nat.pow_le_pow_right (by decide) (by omega)
        unfold leP at h
        omega
    have hl : max (place + mag.log2 - 52) L ≤ i := by omega
    have hk := kept_hi neg mag place (max (place + mag.log2 - 52) L) (by omega)
    rcases Int.lt_or_eq_of_le hl with hlt | heq
    · have hB : B52 ≤ m := by rcases hb with hb | hb; exact hb; omega
      have hn : (max (place + mag.log2 - 52) L - L).toNat + 1 ≤ (i - L).toNat := by omega
      have := Nat.mul_le_mul_right B52 hn
      rw [Nat.add_mul, Nat.one_mul] at this
      omega
    · rw [heq]
      have := cut_le neg (mag <<< (place - i).toNat) (i - place).toNat m (by rw [Nat.shiftLeft_eq]; exact h)
      omega

theorem rung_ge (neg : Bool) (mag : Nat) (hm0 : mag ≠ 0) (place : Int) (m : Nat) (i : Int) (hi : L ≤ i) (hm : m < 2 * B52) (hb : B52 ≤ m ∨ i = L) (hf : (i - L).toNat * B52 + m ≤ 9218868437227405312) (h : leP m i mag place) : (i - L).toNat * B52 + m ≤ rungOf neg mag place := by
  unfold rungOf
  rw [if_neg hm0]
  refine Nat.le_min.2 ⟨?_, hf⟩
  have hl : i ≤ max (place + mag.log2 - 52) L := by
    rcases hb with hb | hb
    · by_cases hc : i ≤ place + mag.log2 - 52
      · omega
      · exfalso
        have h1 : mag < 2 ^ (mag.log2 + 1) := Nat.lt_log2_self
        have h2 : mag * 2 ^ (place - i).toNat < 2 ^ (mag.log2 + 1) * 2 ^ (place - i).toNat := Nat.mul_lt_mul_of_pos_right h1 (Nat.two_pow_pos _)
        have h3 : 2 ^ 52 * 2 ^ (i - place).toNat ≤ m * 2 ^ (i - place).toNat := Nat.mul_le_mul_right _ (by omega)
        have h4 : 2 ^ (mag.log2 + 1) * 2 ^ (place - i).toNat ≤ 2 ^ 52 * 2 ^ (i - place).toNat := by
          rw [← Nat.pow_add, ← Nat.pow_add]
          exact Nat.pow_le_pow_right (by decide) (by omega)
        unfold leP at h
        omega
    · omega
  rcases Int.lt_or_eq_of_le hl with hlt | heq
  · have hk := kept_lo neg mag hm0 place (max (place + mag.log2 - 52) L) (by omega)
    have hn : (i - L).toNat + 1 ≤ (max (place + mag.log2 - 52) L - L).toNat := by omega
    have := Nat.mul_le_mul_right B52 hn
    rw [Nat.add_mul, Nat.one_mul] at this
    omega
  · rw [← heq]
    have := cut_ge neg (mag <<< (place - i).toNat) (i - place).toNat m (by rw [Nat.shiftLeft_eq]; exact h)
    omega

end Go.Proofs.Qxb6600195a

/-
  '(a + b) / 2' of two finite floats, none too great, lies between them. Plain mathematics.
-/
import Derived.Test.Qxb6600195aMean
namespace Go.Proofs.Qxb6600195a
open Ieee

theorem L_eq : L = -1074 := by decide

theorem sgn_mul (s : Bool) (n k : Nat) : sgn s (n * k) = sgn s n * (k : Int) := by
  unfold sgn; split <;> simp [Int.neg_mul]

theorem signed_sgn (s : Bool) (m k : Nat) : signed s m k = sgn s (m * 2 ^ k) := by
  unfold signed sgn
  rw [Nat.shiftLeft_eq]

/-- A finite float: its rung, and its value. -/
def rung (x : Nat) : Nat := x % 9223372036854775808
def neg (x : Nat) : Bool := x / 9223372036854775808 % 2 == 1
def val (x : Nat) : Int := sgn (neg x) (valR (rung x))

theorem key_val {x : Nat} (h : rung x < 9218868437227405312) : key x = (0, val x) := key_fin x h
theorem fin_iff {x : Nat} : (key x).1 = 0 → rung x < 9218868437227405312 := fin_of_key x

theorem total_sgn (t : Int) (n : Bool) (k : Nat) (h : n = (if t = 0 then n else decide (t < 0))) : sgn n (t.natAbs * 2 ^ k) = t * 2 ^ k := by
  rw [sgn_mul]
  have : sgn n t.natAbs = t := by
    unfold sgn
    by_cases h0 : t = 0
    · subst h0; simp
    · rw [if_neg h0] at h
      by_cases h1 : t < 0
      · rw [decide_eq_true h1] at h; subst h; simp; omega
      · rw [decide_eq_false h1] at h; subst h; simp; omega
  rw [this]
  simp

theorem add_between {a b s : Nat} (fa : rung a ≤ 9213374311785329715) (fb : rung b ≤ 9213374311785329715) (hab : val a ≤ val b) (h : Ieee.double.add a b = some s) :
    ∃ v, key s = (0, v) ∧ 2 * val a ≤ v ∧ v ≤ 2 * val b := by
  have ra := read_fin a (by unfold rung at fa; omega)
  have rb := read_fin b (by unfold rung at fb; omega)
  change Ieee.double.read a = .number (neg a) (mOf (rung a)) (iOf (rung a)) at ra
  change Ieee.double.read b = .number (neg b) (mOf (rung b)) (iOf (rung b)) at rb
  have va : val a = signed (neg a) (mOf (rung a)) (iOf (rung a) - L).toNat := by rw [signed_sgn]; rfl
  have vb : val b = signed (neg b) (mOf (rung b)) (iOf (rung b) - L).toNat := by rw [signed_sgn]; rfl
  have ia := iOf_ge (rung a)
  have ib := iOf_ge (rung b)
  obtain ⟨t1, g1, d1⟩ := valR_double (rung a) fa
  obtain ⟨t2, g2, d2⟩ := valR_double (rung b) fb
  have D1 : sgn (neg a) (valR t1) = 2 * val a := by rw [d1, Nat.mul_comm, sgn_mul, Int.mul_comm]; rfl
  have D2 : sgn (neg b) (valR t2) = 2 * val b := by rw [d2, Nat.mul_comm, sgn_mul, Int.mul_comm]; rfl
  unfold Format.add at h
  rw [ra, rb] at h
  simp only [Datum.sum, Option.map_some, Option.some.injEq] at h
  generalize hm : mOf (rung a) = m at *
  generalize hn : mOf (rung b) = n at *
  generalize hi : iOf (rung a) = i at *
  generalize hj : iOf (rung b) = j at *
  have e1 : (i - L).toNat = (i - min i j).toNat + (min i j - L).toNat := by omega
  have e2 : (j - L).toNat = (j - min i j).toNat + (min i j - L).toNat := by omega
  rw [e1, signed_add] at va
  rw [e2, signed_add] at vb
  generalize signed (neg a) m (i - min i j).toNat = A at *
  generalize signed (neg b) n (j - min i j).toNat = C at *
  have hE := total_sgn (A + C) (if A + C = 0 then neg a && neg b else decide (A + C < 0)) (min i j - L).toNat (by split <;> rfl)
  have hsum : (A + C) * 2 ^ (min i j - L).toNat = val a + val b := by rw [va, vb, Int.add_mul]
  rw [← h]
  have := round_between (if A + C = 0 then neg a && neg b else decide (A + C < 0)) (A + C).natAbs (min i j) L (neg a) (neg b) t1 t2 g1 g2 (by omega) (Int.le_refl _)
    (by rw [hE, hsum, D1, Int.sub_self]; simp; omega) (by rw [hE, hsum, D2, Int.sub_self]; simp; omega)
  rw [D1, D2] at this
  exact this

theorem read_two' : Ieee.double.read two = .number false 4503599627370496 (L + 1023) := by decide

theorem half_between {s r : Nat} (fs : rung s < 9218868437227405312) (s1 s2 : Bool) (r1 r2 : Nat) (f1 : r1 < 9218868437227405312) (f2 : r2 < 9218868437227405312)
    (lo : 2 * sgn s1 (valR r1) ≤ val s) (hi : val s ≤ 2 * sgn s2 (valR r2)) (h : Ieee.double.div s two = some r) :
    ∃ v, key r = (0, v) ∧ sgn s1 (valR r1) ≤ v ∧ v ≤ sgn s2 (valR r2) := by
  have rs := read_fin s fs
  change Ieee.double.read s = .number (neg s) (mOf (rung s)) (iOf (rung s)) at rs
  have is := iOf_ge (rung s)
  have ms := mOf_lt (rung s)
  have vs : val s = sgn (neg s) (mOf (rung s) * 2 ^ (iOf (rung s) - L).toNat) := rfl
  unfold Format.div at h
  rw [rs, read_two'] at h
  simp only [Datum.quotient] at h
  rw [if_neg (by decide)] at h
  simp only [Option.map_some, Option.some.injEq, Bool.xor_false] at h
  generalize mOf (rung s) = m at *
  generalize iOf (rung s) = i at *
  have hlog : m.log2 ≤ 52 := by
    by_cases h0 : m = 0
    · subst h0; decide
    · have := (Nat.log2_lt h0 (k := 53)).2 (by omega)
      omega
  have hmore : Ieee.double.fractionBits + 2 + Nat.log2 4503599627370496 - m.log2 = 52 + (54 - m.log2) := by
    have e : Ieee.double.fractionBits + 2 + Nat.log2 4503599627370496 = 106 := by decide
    omega
  rw [hmore] at h
  generalize hk : 54 - m.log2 = k at *
  have hk2 : 2 ≤ k := by omega
  have hdiv : m <<< (52 + k) = 4503599627370496 * (m * 2 ^ k) := by
    rw [Nat.shiftLeft_eq, Nat.pow_add, show (4503599627370496 : Nat) = 2 ^ 52 by decide, ← Nat.mul_assoc, Nat.mul_comm m, Nat.mul_assoc]
  rw [hdiv, Nat.mul_div_cancel_left _ (by decide), Nat.mul_mod_right] at h
  simp only [bne_self_eq_false, Bool.toNat_false, Nat.add_zero] at h
  rw [← h]
  show ∃ v, key (Ieee.double.nearest (neg s) (2 * (m * 2 ^ k)) (i - (L + 1023) - ((52 + k : Nat) : Int) - 1)) = (0, v) ∧ _
  have hL := L_eq
  generalize hP : i - (L + 1023) - ((52 + k : Nat) : Int) - 1 = P at *
  generalize hb : min P L = b at *
  have hE : 2 * sgn (neg s) (2 * (m * 2 ^ k) * 2 ^ (P - b).toNat) = val s * 2 ^ (L - b).toNat := by
    rw [vs, Int.mul_comm]
    have ec : ((2 ^ (L - b).toNat : Nat) : Int) = 2 ^ (L - b).toNat := by simp
    rw [← ec, ← sgn_mul, show (2 : Int) = ((2 : Nat) : Int) from rfl, ← sgn_mul]
    congr 1
    rw [Nat.mul_assoc m, ← Nat.pow_add]
    have e3 : (i - L).toNat + (L - b).toNat = k + 2 + (P - b).toNat := by omega
    rw [e3, Nat.pow_add, Nat.pow_add, show (2 : Nat) ^ 2 = 2 * 2 from rfl]
    generalize 2 ^ k = K
    generalize 2 ^ (P - b).toNat = Z
    simp only [Nat.mul_assoc, Nat.mul_comm, Nat.mul_left_comm]
  have hp : (0 : Int) < 2 ^ (L - b).toNat := Int.pow_pos (by decide)
  refine round_between (neg s) (2 * (m * 2 ^ k)) P b s1 s2 r1 r2 f1 f2 (by omega) (by omega) ?_ ?_
  · have := Int.mul_le_mul_of_nonneg_right lo (Int.le_of_lt hp)
    rw [Int.mul_assoc] at this
    omega
  · have := Int.mul_le_mul_of_nonneg_right hi (Int.le_of_lt hp)
    rw [Int.mul_assoc] at this
    omega

/-- THE MEAN LIES BETWEEN. -/
theorem mid_between {a b r : Nat} (fa : rung a ≤ 9213374311785329715) (fb : rung b ≤ 9213374311785329715) (hab : val a ≤ val b) (h : MidOf a b r) : ∃ v, key r = (0, v) ∧ val a ≤ v ∧ v ≤ val b := by
  rcases h with ⟨s, hs, hr⟩ | ⟨hn, _⟩
  · obtain ⟨v, hv, lo, hi⟩ := add_between fa fb hab hs
    have fs : rung s < 9218868437227405312 := fin_iff (by rw [hv])
    have ev : val s = v := by have := key_val fs; rw [hv] at this; exact (Prod.mk.inj this).2.symm
    exact half_between fs (neg a) (neg b) (rung a) (rung b) (by omega) (by omega) (by rw [ev]; exact lo) (by rw [ev]; exact hi) hr
  · exfalso
    unfold Format.add at hn
    rw [read_fin a (by unfold rung at fa; omega), read_fin b (by unfold rung at fb; omega)] at hn
    simp [Datum.sum] at hn


/-- The magnitudes go up strictly. -/
theorem valR_lt_succ (r : Nat) : valR r < valR (r + 1) := by
  have h1 : valR r ≤ valR (r + 1) := valR_mono (Nat.le_succ r)
  rcases Nat.lt_or_eq_of_le h1 with h | h
  · exact h
  · exfalso
    unfold valR mOf iOf at h
    by_cases c1 : r + 1 < 4503599627370496
    · rw [if_pos c1, if_pos c1, if_pos (by omega), if_pos (by omega), Int.sub_self] at h
      simp at h
    · by_cases c2 : r < 4503599627370496
      · rw [if_neg c1, if_neg c1, if_pos c2, if_pos c2, Int.sub_self] at h
        have e1 : (r + 1) % 4503599627370496 = 0 := by omega
        have e2 : (r + 1) / 4503599627370496 = 1 := by omega
        rw [e1, e2] at h
        have e3 : (L + ((1 - 1 : Nat) : Int) - L).toNat = 0 := by omega
        rw [e3] at h
        simp at h
        omega
      · rw [if_neg c1, if_neg c1, if_neg c2, if_neg c2] at h
        by_cases c3 : (r + 1) % 4503599627370496 = 0
        · have e1 : (r + 1) / 4503599627370496 = r / 4503599627370496 + 1 := by omega
          have e2 : r % 4503599627370496 = 4503599627370495 := by omega
          rw [c3, e1, e2] at h
          have e3 : (L + ((r / 4503599627370496 + 1 - 1 : Nat) : Int) - L).toNat = (L + ((r / 4503599627370496 - 1 : Nat) : Int) - L).toNat + 1 := by omega
          rw [e3, Nat.pow_succ, Nat.mul_comm (2 ^ _) 2, ← Nat.mul_assoc] at h
          have := Nat.eq_of_mul_eq_mul_right (Nat.two_pow_pos _) h
          omega
        · have e1 : (r + 1) / 4503599627370496 = r / 4503599627370496 := by omega
          have e2 : (r + 1) % 4503599627370496 = r % 4503599627370496 + 1 := by omega
          rw [e1, e2] at h
          have := Nat.eq_of_mul_eq_mul_right (Nat.two_pow_pos _) h
          omega

end Go.Proofs.Qxb6600195a

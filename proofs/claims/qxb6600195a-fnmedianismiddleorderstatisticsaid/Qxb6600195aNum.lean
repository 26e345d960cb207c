/-
  Float arithmetic in the walk: '+' and '/' at words of bits, where the operation is valid and where it hands back a NaN (whose bits the tape says); and that what is written of a number is no NaN.
-/
import Derived.Test.Qxb6600195aKey
import Derived.Laws.FloatArith
namespace Go.Proofs.Qxb6600195a
open Ieee

/-- What a word stands for, its constants reckoned. -/
theorem read_eq (x : Nat) : Ieee.double.read x =
    if x % 9223372036854775808 < 4503599627370496 then .number (x / 9223372036854775808 % 2 == 1) (x % 9223372036854775808) L
    else if x % 9223372036854775808 < 9218868437227405312 then .number (x / 9223372036854775808 % 2 == 1) (4503599627370496 + x % 9223372036854775808 % 4503599627370496) (L + ((x % 9223372036854775808 / 4503599627370496 - 1 : Nat) : Int))
    else if x % 9223372036854775808 = 9218868437227405312 then .infinity (x / 9223372036854775808 % 2 == 1)
    else .nan (x / 9223372036854775808 % 2 == 1) (x % 9223372036854775808 - 9218868437227405312) := rfl

/-- The NaN that the tape's answer t names. -/
def nb (t : Nat) : Nat := Question.cut (.nanBits .f64 0 0) t

/-- A word beyond infinity's is a NaN. -/
theorem read_nan (x : Nat) (h : 9218868437227405312 < x % 9223372036854775808) : (key x).1 = -2 := by
  unfold key
  rw [read_eq, if_neg (by omega), if_neg (by omega), if_neg (by omega)]
  rfl

/-- A word up to infinity's is none. -/
theorem read_num (x : Nat) (h : x % 9223372036854775808 ≤ 9218868437227405312) : (key x).1 ≠ -2 := by
  unfold key
  rw [read_eq]
  split
  · simp [dkey]
  · split
    · simp [dkey]
    · rw [if_pos (by omega)]
      simp only [dkey]
      split <;> simp

theorem nb_nan (t : Nat) : nanF (nb t) = true := by
  rw [nan_key, decide_eq_true_iff]
  refine read_nan _ ?_
  show 9218868437227405312 < ((t % 2) * 2 ^ 63 + 0x7ff0000000000000 + 1 + (t / 2) % (2 ^ 52 - 1)) % 9223372036854775808
  have h2 : (t / 2) % (2 ^ 52 - 1) < 4503599627370495 := Nat.mod_lt _ (by decide)
  generalize (t / 2) % (2 ^ 52 - 1) = r at h2
  rw [show (t % 2) * 2 ^ 63 + 0x7ff0000000000000 + 1 + r = (9218868437227405313 + r) + 9223372036854775808 * (t % 2) by omega, Nat.add_mul_mod_self_left, Nat.mod_eq_of_lt (by omega)]
  omega

section
variable {P : Program} (w : World) (ty : TypeId) (x y : Nat)
theorem run_add_ok {r : Nat} (h : Ieee.double.add x y = some r) : (binOp .add ty (.float .f64 x) (.float .f64 y)).run P w = .ok (.float .f64 r) w := run_float_arith w .add ty .f64 x y r h
theorem run_div_ok {r : Nat} (h : Ieee.double.div x y = some r) : (binOp .quo ty (.float .f64 x) (.float .f64 y)).run P w = .ok (.float .f64 r) w := run_float_arith w .quo ty .f64 x y r h
theorem run_add_nan (h : Ieee.double.add x y = none) : (binOp .add ty (.float .f64 x) (.float .f64 y)).run P w = .ok (.float .f64 (nb (w.tape w.drawn (.nanBits .f64 x y)))) w.drew := by
  have h' : FloatKind.f64.format.add x y = none := h
  simp [binOp, Op.floatArith, h', Question.forced]
  rfl
theorem run_div_nan (h : Ieee.double.div x y = none) : (binOp .quo ty (.float .f64 x) (.float .f64 y)).run P w = .ok (.float .f64 (nb (w.tape w.drawn (.nanBits .f64 x y)))) w.drew := by
  have h' : FloatKind.f64.format.div x y = none := h
  simp [binOp, Op.floatArith, h', Question.forced]
  rfl
end

/-- The two. -/
def two : Nat := 4611686018427387904

/-- What '(x + y) / 2' may hand back. -/
def MidOf (x y r : Nat) : Prop := (∃ s, Ieee.double.add x y = some s ∧ Ieee.double.div s two = some r) ∨ (Ieee.double.add x y = none ∧ nanF r = true)

theorem div_none_of_nan {s : Nat} (h : nanF s = true) (y : Nat) : Ieee.double.div s y = none := by
  rw [nan_key, decide_eq_true_iff] at h
  unfold Format.div
  unfold key at h
  cases hd : Ieee.double.read s with
  | nan a b => simp [Datum.quotient]
  | infinity a => rw [hd] at h; simp only [dkey] at h; split at h <;> simp at h
  | number a b c => rw [hd] at h; simp [dkey] at h

theorem read_two : ∃ m i, Ieee.double.read two = .number false m i ∧ m ≠ 0 := ⟨_, _, rfl, by decide⟩

theorem div_two_some {s : Nat} (h : nanF s = false) : ∃ r, Ieee.double.div s two = some r := by
  obtain ⟨m, i, hr, hm⟩ := read_two
  rw [nan_key, decide_eq_false_iff_not] at h
  unfold Format.div
  unfold key at h
  rw [hr]
  cases hd : Ieee.double.read s with
  | nan a b => rw [hd] at h; simp [dkey] at h
  | infinity a => exact ⟨_, rfl⟩
  | number a b c => simp [Datum.quotient, hm]

/-- The word of a sign and a rung: the rung is read again. -/
theorem word_mod (neg : Bool) (r : Nat) (h : r < 9223372036854775808) : Ieee.double.word neg r % 9223372036854775808 = r := by
  unfold Format.word
  split
  · show (9223372036854775808 + r) % 9223372036854775808 = r
    omega
  · omega

theorem word_num (neg : Bool) (r : Nat) (h : r ≤ 9218868437227405312) : nanF (Ieee.double.word neg r) = false := by
  rw [nan_key, decide_eq_false_iff_not]
  refine read_num _ ?_
  rw [word_mod neg r (by omega)]
  exact h

/-- What is written of a number or an infinity is no NaN. -/
theorem write_num (d : Datum) (h : d.isNaN = false) : nanF (Ieee.double.write d) = false := by
  cases d with
  | nan s t => simp [Datum.isNaN] at h
  | infinity s => exact word_num s _ (Nat.le_refl _)
  | number s m i =>
    show nanF (Ieee.double.nearest s m i) = false
    unfold Format.nearest
    split
    · exact word_num s 0 (Nat.zero_le _)
    · exact word_num s _ (Nat.min_le_right _ _)

theorem sum_num {d e f : Datum} (h : d.sum e = some f) : f.isNaN = false := by
  cases d <;> cases e <;> simp [Datum.sum] at h
  · subst h; rfl
  · subst h; rfl
  · subst h; rfl
  · obtain ⟨_, rfl⟩ := h; rfl

theorem add_num {x y s : Nat} (h : Ieee.double.add x y = some s) : nanF s = false := by
  unfold Format.add at h
  cases hs : (Ieee.double.read x).sum (Ieee.double.read y) with
  | none => rw [hs] at h; simp at h
  | some d =>
    rw [hs] at h
    simp only [Option.map_some, Option.some.injEq] at h
    subst h
    exact write_num d (sum_num hs)

end Go.Proofs.Qxb6600195a

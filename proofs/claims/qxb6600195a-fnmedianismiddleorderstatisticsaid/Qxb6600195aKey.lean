/-
  Floats by a key: a pair of integers whose lexical order is cmp.Less's. No Go in sight but the words 'ltF', 'nanF'.
-/
import Derived.Test.Qxb6600195aF0
import Derived.Sort.Statements
namespace Go.Proofs.Qxb6600195a
open Ieee

/-- Every finite float64 is a multiple of 2^L. -/
abbrev L : Int := Ieee.double.leastPlace

/-- The lexical order of pairs. -/
def lexLt (a b : Int × Int) : Bool := decide (a.1 < b.1 ∨ (a.1 = b.1 ∧ a.2 < b.2))
theorem lexLt_iff {a b : Int × Int} : lexLt a b = true ↔ a.1 < b.1 ∨ (a.1 = b.1 ∧ a.2 < b.2) := by unfold lexLt; exact decide_eq_true_iff
theorem lexLt_not {a b : Int × Int} : lexLt a b = false ↔ ¬ (a.1 < b.1 ∨ (a.1 = b.1 ∧ a.2 < b.2)) := by unfold lexLt; exact decide_eq_false_iff_not

/-- NaN lowest, then -Inf, the numbers (in units of 2^L), +Inf. -/
def dkey : Datum → Int × Int
  | .nan .. => (-2, 0)
  | .infinity s => if s then (-1, 0) else (1, 0)
  | .number s m i => (0, signed s m (i - L).toNat)

def key (x : Nat) : Int × Int := dkey (Ieee.double.read x)

/-- The places of a format's numbers. -/
def placed : Datum → Prop
  | .number _ _ i => L ≤ i
  | _ => True

theorem placed_read (x : Nat) : placed (Ieee.double.read x) := by
  unfold Format.read
  simp only []
  split
  · exact Int.le_refl _
  · split
    · show L ≤ Ieee.double.leastPlace + _
      have : (0 : Int) ≤ ((x % Ieee.double.signWeight / Ieee.double.binade - 1 : Nat) : Int) := Int.natCast_nonneg _
      show Ieee.double.leastPlace ≤ _
      omega
    · split <;> trivial

theorem signed_add (s : Bool) (m a b : Nat) : signed s m (a + b) = signed s m a * 2 ^ b := by
  unfold signed
  rw [Nat.shiftLeft_eq, Nat.shiftLeft_eq, Nat.pow_add, ← Nat.mul_assoc]
  split <;> simp [Int.neg_mul]

theorem compare_int (a b : Int) : compare a b = if a < b then .lt else if a = b then .eq else .gt := rfl

theorem compare_scale (a b : Int) (k : Nat) : compare (a * 2 ^ k) (b * 2 ^ k) = compare a b := by
  have hp : (0 : Int) < 2 ^ k := Int.pow_pos (by decide)
  rw [compare_int, compare_int]
  have h1 : (a * 2 ^ k < b * 2 ^ k) ↔ a < b := Int.mul_lt_mul_right hp
  have h2 : (a * 2 ^ k = b * 2 ^ k) ↔ a = b := ⟨fun h => Int.eq_of_mul_eq_mul_right (by omega) h, fun h => by rw [h]⟩
  simp only [h1, h2]

/-- How two floats stand to each other, by their keys. -/
def cmpKey (a b : Int × Int) : Option Ordering :=
  if a.1 = -2 ∨ b.1 = -2 then none else some (if lexLt a b then .lt else if a = b then .eq else .gt)

theorem order_key (d e : Datum) (hd : placed d) (he : placed e) : d.order e = cmpKey (dkey d) (dkey e) := by
  cases d with
  | nan s t => cases e <;> simp [Datum.order, dkey, cmpKey]
  | infinity s =>
    cases e with
    | nan t u => simp [Datum.order, dkey, cmpKey]
    | infinity t => cases s <;> cases t <;> simp [Datum.order, dkey, cmpKey, lexLt] <;> rfl
    | number t n j => cases s <;> simp [Datum.order, dkey, cmpKey, lexLt]
  | number s m i =>
    cases e with
    | nan t u => simp [Datum.order, dkey, cmpKey]
    | infinity t => cases t <;> simp [Datum.order, dkey, cmpKey, lexLt]
    | number t n j =>
      have hi : L ≤ i := hd
      have hj : L ≤ j := he
      have e1 : (i - L).toNat = (i - min i j).toNat + (min i j - L).toNat := by omega
      have e2 : (j - L).toNat = (j - min i j).toNat + (min i j - L).toNat := by omega
      simp only [Datum.order, dkey, cmpKey]
      rw [← compare_scale _ _ (min i j - L).toNat, ← signed_add, ← signed_add, ← e1, ← e2, compare_int]
      simp [lexLt]

theorem order_of (x y : Nat) : Ieee.double.order x y = cmpKey (key x) (key y) := order_key _ _ (placed_read x) (placed_read y)

theorem nan_key (x : Nat) : nanF x = decide ((key x).1 = -2) := by
  unfold nanF
  rw [order_of, cmpKey]
  by_cases h : (key x).1 = -2
  · simp [h]
  · simp [h, lexLt]

theorem dkey_lo (d : Datum) : -2 ≤ (dkey d).1 ∧ ((dkey d).1 = -2 → (dkey d).2 = 0) := by
  cases d with
  | nan s t => simp [dkey]
  | infinity s => cases s <;> simp [dkey]
  | number s m i => simp [dkey]

theorem lt_key (x y : Nat) : ltF x y = lexLt (key x) (key y) := by
  have hx := dkey_lo (Ieee.double.read x)
  have hy := dkey_lo (Ieee.double.read y)
  change -2 ≤ (key x).1 ∧ _ at hx
  change -2 ≤ (key y).1 ∧ _ at hy
  unfold ltF
  rw [nan_key, nan_key, order_of, cmpKey]
  by_cases h1 : (key x).1 = -2
  · by_cases h2 : (key y).1 = -2
    · have e1 := hx.2 h1
      have e2 := hy.2 h2
      change (key x).2 = 0 at e1
      change (key y).2 = 0 at e2
      have : lexLt (key x) (key y) = false := lexLt_not.2 (by omega)
      simp [h1, h2, this]
    · have : lexLt (key x) (key y) = true := lexLt_iff.2 (by omega)
      simp [h1, h2, this]
  · by_cases h2 : (key y).1 = -2
    · have : lexLt (key x) (key y) = false := lexLt_not.2 (by omega)
      simp [h1, h2, this]
    · cases hl : lexLt (key x) (key y) with
      | true => simp [h1, h2]
      | false =>
        simp only [h1, h2, or_self, if_false, Bool.false_eq_true]
        split <;> rfl

/-- cmp.Less at float64 is a strict weak order: NaN first, the two zeros alike. -/
theorem swo_ltF : Go.Sort.SWO ltF where
  irrefl := fun x => by rw [lt_key]; exact lexLt_not.2 (by omega)
  trans := fun x y z h1 h2 => by
    rw [lt_key] at *
    have a := lexLt_iff.1 h1
    have b := lexLt_iff.1 h2
    exact lexLt_iff.2 (by omega)
  ntrans := fun x y z h1 h2 => by
    rw [lt_key] at *
    have a := lexLt_not.1 h1
    have b := lexLt_not.1 h2
    exact lexLt_not.2 (by omega)
end Go.Proofs.Qxb6600195a

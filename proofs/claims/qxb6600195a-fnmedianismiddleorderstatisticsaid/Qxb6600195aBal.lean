/-
  What the law's second loop reckons of a list of finite floats, and that the median balances it. Plain mathematics.
-/
import Derived.Test.Qxb6600195aF18
import Derived.Test.Qxb6600195aHalf
namespace Go.Proofs
open Go.Sort Go.Proofs.Qxb6600195a

/-- 'x <= y', 'x >= y'. -/
def leB (x y : Nat) : Bool := FloatKind.f64.format.order x y == some .lt || FloatKind.f64.format.order x y == some .eq
def geB (x y : Nat) : Bool := FloatKind.f64.format.order x y == some .gt || FloatKind.f64.format.order x y == some .eq

/-- Within the bounds that the law asks. -/
def bdd (z : Nat) : Bool := geB z 18436746348640105523 && leB z 9213374311785329715

theorem bdd_of {p q r s : Bool} (h : ((!p) = false ∨ (!q) = false) ∧ ((!r) = false ∨ (!s) = false)) : ((p || q) && (r || s)) = true := by
  cases p <;> cases q <;> cases r <;> cases s <;> simp at h ⊢

/-- Finite. -/
def Fin64 (x : Nat) : Prop := rung x < 9218868437227405312

theorem ord_fin {x y : Nat} (hx : Fin64 x) (hy : Fin64 y) : FloatKind.f64.format.order x y = some (if val x < val y then .lt else if val x = val y then .eq else .gt) := by
  show Ieee.double.order x y = _
  rw [order_of, key_val hx, key_val hy, cmpKey]
  rw [if_neg (by simp)]
  by_cases h1 : val x < val y
  · have : lexLt (0, val x) (0, val y) = true := lexLt_iff.2 (.inr ⟨rfl, h1⟩)
    rw [if_pos h1, this]
    simp
  · have : lexLt (0, val x) (0, val y) = false := lexLt_not.2 (by simp; omega)
    rw [if_neg h1, this]
    simp

theorem ord_three {x y : Nat} (hx : Fin64 x) (hy : Fin64 y) :
    (FloatKind.f64.format.order x y = some .lt ∧ val x < val y) ∨ (FloatKind.f64.format.order x y = some .eq ∧ val x = val y) ∨ (FloatKind.f64.format.order x y = some .gt ∧ val y < val x) := by
  rw [ord_fin hx hy]
  by_cases h1 : val x < val y
  · exact .inl ⟨by rw [if_pos h1], h1⟩
  · by_cases h2 : val x = val y
    · exact .inr (.inl ⟨by rw [if_neg h1, if_pos h2], h2⟩)
    · exact .inr (.inr ⟨by rw [if_neg h1, if_neg h2], by omega⟩)

theorem leB_iff {x y : Nat} (hx : Fin64 x) (hy : Fin64 y) : leB x y = true ↔ val x ≤ val y := by
  unfold leB
  rcases ord_three hx hy with ⟨h, h'⟩ | ⟨h, h'⟩ | ⟨h, h'⟩ <;> rw [h] <;> simp <;> omega
theorem geB_iff {x y : Nat} (hx : Fin64 x) (hy : Fin64 y) : geB x y = true ↔ val y ≤ val x := by
  unfold geB
  rcases ord_three hx hy with ⟨h, h'⟩ | ⟨h, h'⟩ | ⟨h, h'⟩ <;> rw [h] <;> simp <;> omega

theorem fin_hi : Fin64 9213374311785329715 := by unfold Fin64; decide
theorem fin_lo : Fin64 18436746348640105523 := by unfold Fin64; decide

/-- What the law's bounds say: finite, and the rung not beyond 8e307's. -/
theorem bdd_rung {z : Nat} (h : bdd z = true) : Fin64 z ∧ rung z ≤ 9213374311785329715 := by
  unfold bdd at h
  rw [Bool.and_eq_true] at h
  obtain ⟨h1, h2⟩ := h
  -- z is a finite number: an order with two finite ones
  have hfin : Fin64 z := by
    unfold geB at h1
    unfold leB at h2
    have o1 : FloatKind.f64.format.order z 18436746348640105523 = cmpKey (key z) (key 18436746348640105523) := order_of _ _
    have o2 : FloatKind.f64.format.order z 9213374311785329715 = cmpKey (key z) (key 9213374311785329715) := order_of _ _
    rw [o1, key_val fin_lo] at h1
    rw [o2, key_val fin_hi] at h2
    apply fin_iff
    unfold cmpKey at h1 h2
    by_cases hn : (key z).1 = -2
    · simp [hn] at h1
    · by_cases c1 : lexLt (key z) (0, val 18436746348640105523) = true
      · simp [hn, c1] at h1
      · by_cases c2 : lexLt (key z) (0, val 9213374311785329715) = true
        · have d1 := lexLt_not.1 (Bool.eq_false_iff.2 c1)
          have d2 := lexLt_iff.1 c2
          simp at d1 d2
          omega
        · by_cases c3 : key z = (0, val 9213374311785329715)
          · rw [c3]
          · simp [hn, c2, c3] at h2
  refine ⟨hfin, ?_⟩
  have g1 := (geB_iff hfin fin_lo).1 h1
  have g2 := (leB_iff hfin fin_hi).1 h2
  have e1 : val 18436746348640105523 = -(valR 9213374311785329715 : Int) := rfl
  have e2 : val 9213374311785329715 = (valR 9213374311785329715 : Int) := rfl
  rw [e1] at g1
  rw [e2] at g2
  rcases Nat.lt_or_ge 9213374311785329715 (rung z) with hc | hc
  · exfalso
    have hm := valR_mono (show 9213374311785329715 + 1 ≤ rung z from hc)
    have hs : valR 9213374311785329715 < valR (9213374311785329715 + 1) := valR_lt_succ _
    unfold val sgn at g1 g2
    split at g1 <;> simp_all <;> omega
  · exact hc

/-! ### What the second loop holds behind k rounds -/
def lowAt (zs : List Nat) (k Lo : Nat) : Prop := Fin64 Lo ∧ ∀ i, i < k → val Lo ≤ val (zs.getD i 0)
def highAt (zs : List Nat) (k Gr : Nat) : Prop := Fin64 Gr ∧ ∀ i, i < k → val (zs.getD i 0) ≤ val Gr
def cntLe (zs : List Nat) (g k : Nat) : Nat := (zs.take k).countP (leB · g)
def cntGe (zs : List Nat) (g k : Nat) : Nat := (zs.take k).countP (geB · g)

section
variable {zs : List Nat} {k x Lo Gr g : Nat}
theorem low_go (hx : zs.getD k 0 = x) (fx : Fin64 x) (hv : val x < val Lo) (h : lowAt zs k Lo) : lowAt zs (k + 1) x := by
  refine ⟨fx, fun i hi => ?_⟩
  rcases Nat.lt_or_ge i k with h1 | h1
  · have := h.2 i h1; omega
  · obtain rfl : i = k := by omega
    rw [hx]; exact Int.le_refl _
theorem low_stay (hx : zs.getD k 0 = x) (hv : ¬ val x < val Lo) (h : lowAt zs k Lo) : lowAt zs (k + 1) Lo := by
  refine ⟨h.1, fun i hi => ?_⟩
  rcases Nat.lt_or_ge i k with h1 | h1
  · exact h.2 i h1
  · obtain rfl : i = k := by omega
    rw [hx]; omega
theorem high_go (hx : zs.getD k 0 = x) (fx : Fin64 x) (hv : val Gr < val x) (h : highAt zs k Gr) : highAt zs (k + 1) x := by
  refine ⟨fx, fun i hi => ?_⟩
  rcases Nat.lt_or_ge i k with h1 | h1
  · have := h.2 i h1; omega
  · obtain rfl : i = k := by omega
    rw [hx]; exact Int.le_refl _
theorem high_stay (hx : zs.getD k 0 = x) (hv : ¬ val Gr < val x) (h : highAt zs k Gr) : highAt zs (k + 1) Gr := by
  refine ⟨h.1, fun i hi => ?_⟩
  rcases Nat.lt_or_ge i k with h1 | h1
  · exact h.2 i h1
  · obtain rfl : i = k := by omega
    rw [hx]; omega
theorem cnt_step (p : Nat → Bool) (hk : k < zs.length) (hx : zs.getD k 0 = x) : (zs.take (k + 1)).countP p = (zs.take k).countP p + (p x).toNat := by
  rw [List.take_succ_eq_append_getElem hk, List.countP_append]
  have : zs[k] = x := by rw [← hx]; simp [List.getElem?_eq_getElem hk]
  rw [this]
  cases h : p x <;> simp [h]
end

/-! ### The sorted list -/
theorem sortL_perm (zs : List Nat) : (sortL zs).Perm zs := by
  have h := (sort_is zs.toArray).1
  have hp := h.2.2
  have hs : (Sort.sort ltF zs.toArray).size = zs.length := by rw [h.1]; simp
  have e1 : ((Sort.sort ltF zs.toArray).extract 0 zs.toArray.size).toList = sortL zs := by
    rw [List.size_toArray, ← hs, Array.extract_size]; rfl
  have e2 : (zs.toArray.extract 0 zs.toArray.size).toList = zs := by rw [Array.extract_size]
  rw [e1, e2] at hp
  exact hp

theorem sortL_sorted (zs : List Nat) (i j : Nat) (hij : i ≤ j) (hj : j < zs.length) : lexLt (key ((sortL zs).getD j 0)) (key ((sortL zs).getD i 0)) = false := by
  have h := sort_is zs.toArray
  have hs : (Sort.sort ltF zs.toArray).size = zs.length := by rw [h.1.1]; simp
  have eg : ∀ t, t < zs.length → (sortL zs).getD t 0 = (Sort.sort ltF zs.toArray)[t]! := fun t ht => by
    simp [sortL, getElem!_pos, show t < (Sort.sort ltF zs.toArray).size by omega]
  rw [eg i (by omega), eg j hj, ← lt_key]
  rcases Nat.lt_or_eq_of_le hij with h1 | h1
  · exact h.2 i j (Nat.zero_le _) h1 (by simpa using hj)
  · subst h1
    exact swo_ltF.irrefl _

/-- So many of the first stand in the count. -/
theorem countP_ge_take (p : Nat → Bool) (T : List Nat) (m : Nat) (hm : m ≤ T.length) (h : ∀ i, i < m → p (T.getD i 0) = true) : m ≤ T.countP p := by
  have h1 : (T.take m).countP p = (T.take m).length := List.countP_eq_length.2 (fun a ha => by
    obtain ⟨i, hi, rfl⟩ := List.getElem_of_mem ha
    have hi' : i < m := by rw [List.length_take] at hi; omega
    have := h i hi'
    rw [List.getD_eq_getElem?_getD, List.getElem?_eq_getElem (by omega)] at this
    simpa using this)
  rw [List.length_take, Nat.min_eq_left hm] at h1
  rw [← h1]
  exact (List.take_sublist m T).countP_le
theorem countP_ge_drop (p : Nat → Bool) (T : List Nat) (m : Nat) (h : ∀ i, m ≤ i → i < T.length → p (T.getD i 0) = true) : T.length - m ≤ T.countP p := by
  have h1 : (T.drop m).countP p = (T.drop m).length := List.countP_eq_length.2 (fun a ha => by
    obtain ⟨i, hi, rfl⟩ := List.getElem_of_mem ha
    rw [List.length_drop] at hi
    have := h (m + i) (by omega) (by omega)
    rw [List.getD_eq_getElem?_getD, List.getElem?_eq_getElem (by omega)] at this
    simpa using this)
  rw [List.length_drop] at h1
  rw [← h1]
  exact (List.drop_sublist m T).countP_le

/-- Where the median of finite runs, none too great, lies. -/
theorem med_mid {zs : List Nat} {g : Nat} (hz : 1 ≤ zs.length) (hb : ∀ j, j < zs.length → bdd (zs.getD j 0) = true) (hg : IsMed (sortL zs) g) :
    (∀ i, i < zs.length → ∃ j, j < zs.length ∧ (sortL zs).getD i 0 = zs.getD j 0) ∧ (∀ i, i < zs.length → Fin64 ((sortL zs).getD i 0)) ∧
    (∀ i j, i ≤ j → j < zs.length → val ((sortL zs).getD i 0) ≤ val ((sortL zs).getD j 0)) ∧
    Fin64 g ∧ val ((sortL zs).getD ((zs.length - 1) / 2) 0) ≤ val g ∧ val g ≤ val ((sortL zs).getD (zs.length / 2) 0) := by
  have hp := sortL_perm zs
  have hl := sortL_len zs
  generalize hn : zs.length = n at *
  -- every member of the sorted list is one of the runs
  have mem : ∀ i, i < n → ∃ j, j < n ∧ (sortL zs).getD i 0 = zs.getD j 0 := fun i hi => by
    have hm : (sortL zs).getD i 0 ∈ sortL zs := by
      rw [List.getD_eq_getElem?_getD, List.getElem?_eq_getElem (by omega)]
      exact List.getElem_mem _
    obtain ⟨j, hj, e⟩ := List.getElem_of_mem (hp.mem_iff.1 hm)
    refine ⟨j, by omega, ?_⟩
    rw [← e, List.getD_eq_getElem?_getD, List.getElem?_eq_getElem hj]
    rfl
  have fin : ∀ i, i < n → Fin64 ((sortL zs).getD i 0) ∧ rung ((sortL zs).getD i 0) ≤ 9213374311785329715 := fun i hi => by
    obtain ⟨j, hj, e⟩ := mem i hi
    rw [e]
    exact bdd_rung (hb j hj)
  have srt : ∀ i j, i ≤ j → j < n → val ((sortL zs).getD i 0) ≤ val ((sortL zs).getD j 0) := fun i j hij hj => by
    have := lexLt_not.1 (sortL_sorted zs i j hij (by omega))
    rw [key_val (fin j hj).1, key_val (fin i (by omega)).1] at this
    simp at this
    exact this
  have hmid : Fin64 g ∧ val ((sortL zs).getD ((n - 1) / 2) 0) ≤ val g ∧ val g ≤ val ((sortL zs).getD (n / 2) 0) := by
    unfold IsMed at hg
    rw [hl] at hg
    split at hg
    · rename_i hodd
      rw [hg]
      have e : (n - 1) / 2 = n / 2 := by omega
      rw [e]
      exact ⟨(fin (n / 2) (by omega)).1, Int.le_refl _, Int.le_refl _⟩
    · rename_i hev
      have e : (n - 1) / 2 = n / 2 - 1 := by omega
      rw [e]
      obtain ⟨v, hv, lo, hi⟩ := mid_between (fin (n / 2 - 1) (by omega)).2 (fin (n / 2) (by omega)).2 (srt _ _ (by omega) (by omega)) hg
      have hf : Fin64 g := fin_iff (by rw [hv])
      have ev : val g = v := by have := key_val hf; rw [hv] at this; exact (Prod.mk.inj this).2.symm
      rw [ev]
      exact ⟨hf, lo, hi⟩
  exact ⟨mem, fun i hi => (fin i hi).1, srt, hmid⟩

theorem med_fin {zs : List Nat} {g : Nat} (hz : 1 ≤ zs.length) (hb : ∀ j, j < zs.length → bdd (zs.getD j 0) = true) (hg : IsMed (sortL zs) g) : Fin64 g := (med_mid hz hb hg).2.2.2.1

/-- THE LAW: the median of finite runs, none too great, balances them. -/
theorem balances {zs : List Nat} {g Lo Gr : Nat} (hz : 1 ≤ zs.length) (hb : ∀ j, j < zs.length → bdd (zs.getD j 0) = true) (hg : IsMed (sortL zs) g) (hL : lowAt zs zs.length Lo) (hG : highAt zs zs.length Gr) :
    Fin64 g ∧ val Lo ≤ val g ∧ val g ≤ val Gr ∧ zs.length ≤ 2 * cntLe zs g zs.length ∧ zs.length ≤ 2 * cntGe zs g zs.length := by
  have hp := sortL_perm zs
  have hl := sortL_len zs
  obtain ⟨mem, fin, srt, hmid⟩ := med_mid hz hb hg
  generalize hn : zs.length = n at *
  obtain ⟨fg, h1, h2⟩ := hmid
  refine ⟨fg, ?_, ?_, ?_, ?_⟩
  · obtain ⟨j, hj, e⟩ := mem ((n - 1) / 2) (by omega)
    have := hL.2 j hj
    rw [e] at h1
    omega
  · obtain ⟨j, hj, e⟩ := mem (n / 2) (by omega)
    have := hG.2 j hj
    rw [e] at h2
    omega
  · have hc : cntLe zs g n = (sortL zs).countP (leB · g) := by
      unfold cntLe
      rw [List.take_of_length_le (by omega)]
      exact (hp.countP_eq _).symm
    rw [hc]
    have := countP_ge_take (leB · g) (sortL zs) ((n - 1) / 2 + 1) (by omega) (fun i hi => (leB_iff (fin i (by omega)) fg).2 (by have := srt i ((n - 1) / 2) (by omega) (by omega); omega))
    omega
  · have hc : cntGe zs g n = (sortL zs).countP (geB · g) := by
      unfold cntGe
      rw [List.take_of_length_le (by omega)]
      exact (hp.countP_eq _).symm
    rw [hc]
    have := countP_ge_drop (geB · g) (sortL zs) (n / 2) (fun i h3 h4 => (geB_iff (fin i (by omega)) fg).2 (by have := srt (n / 2) i h3 (by omega); omega))
    omega

end Go.Proofs

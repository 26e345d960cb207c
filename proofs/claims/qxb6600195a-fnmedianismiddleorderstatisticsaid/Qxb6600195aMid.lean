/-
  Floats of one key stand for one another in '(x + y) / 2'; an element found by counting has the key of the one that stands there in the sorted list. Plain mathematics.
-/
import Derived.Test.Qxb6600195aBal
namespace Go.Proofs
open Go.Sort Go.Proofs.Qxb6600195a Ieee

theorem valR_lt {r t : Nat} (h : r < t) : valR r < valR t := Nat.lt_of_lt_of_le (valR_lt_succ r) (valR_mono h)
theorem valR_inj {r t : Nat} (h : valR r = valR t) : r = t := by
  rcases Nat.lt_trichotomy r t with h1 | h1 | h1
  · have := valR_lt h1; omega
  · exact h1
  · have := valR_lt h1; omega
theorem valR_zero : valR 0 = 0 := by decide

/-- Two words of one key read alike, but for the sign of a zero. -/
theorem same_read {x y : Nat} (h : key x = key y) :
    (nanF x = true ∧ nanF y = true) ∨ (∃ s, Ieee.double.read x = .infinity s ∧ Ieee.double.read y = .infinity s) ∨
    (∃ s t m i, Ieee.double.read x = .number s m i ∧ Ieee.double.read y = .number t m i ∧ (s = t ∨ m = 0)) := by
  by_cases hn : (key x).1 = -2
  · exact .inl ⟨by rw [nan_key, decide_eq_true hn], by rw [nan_key, decide_eq_true (by rw [← h]; exact hn)]⟩
  right
  by_cases h0 : (key x).1 = 0
  · right
    have fx := fin_of_key x h0
    have fy := fin_of_key y (by rw [← h]; exact h0)
    have ex := read_fin x fx
    have ey := read_fin y fy
    have kx := key_val (x := x) fx
    have ky := key_val (x := y) fy
    rw [kx, ky] at h
    have hv : val x = val y := (Prod.mk.inj h).2
    unfold val at hv
    change Ieee.double.read x = .number (neg x) (mOf (rung x)) (iOf (rung x)) at ex
    change Ieee.double.read y = .number (neg y) (mOf (rung y)) (iOf (rung y)) at ey
    have hr : valR (rung x) = valR (rung y) ∧ (neg x = neg y ∨ valR (rung x) = 0) := by
      unfold sgn at hv
      generalize valR (rung x) = A at hv ⊢
      generalize valR (rung y) = C at hv ⊢
      generalize neg x = sx at hv ⊢
      generalize neg y = sy at hv ⊢
      cases sx <;> cases sy <;> simp only [Bool.false_eq_true, if_true, if_false] at hv
      · exact ⟨by omega, .inl rfl⟩
      · exact ⟨by omega, .inr (by omega)⟩
      · exact ⟨by omega, .inr (by omega)⟩
      · exact ⟨by omega, .inl rfl⟩
    have hrr := valR_inj hr.1
    rw [hrr] at ex
    refine ⟨neg x, neg y, _, _, ex, ey, ?_⟩
    rcases hr.2 with h2 | h2
    · exact .inl h2
    · right
      have : rung x = 0 := valR_inj (by rw [h2, valR_zero])
      rw [← hrr, this]
      rfl
  · left
    unfold key at h hn h0
    cases hx : Ieee.double.read x with
    | nan a b => rw [hx] at hn; exact absurd rfl hn
    | number a b c => rw [hx] at h0; exact absurd rfl h0
    | infinity a =>
      cases hy : Ieee.double.read y with
      | nan c d => rw [hx, hy] at h; cases a <;> simp [dkey] at h
      | number c d e => rw [hx, hy] at h; cases a <;> simp [dkey] at h
      | infinity c =>
        rw [hx, hy] at h
        refine ⟨a, rfl, ?_⟩
        cases a <;> cases c <;> simp [dkey] at h ⊢

theorem key_nearest (s t : Bool) (m : Nat) (i : Int) (h : s = t ∨ m = 0) : key (Ieee.double.nearest s m i) = key (Ieee.double.nearest t m i) := by
  rcases h with rfl | rfl
  · rfl
  · rw [nearest_eq, nearest_eq]
    have e : ∀ b, rungOf b 0 i = 0 := fun b => by unfold rungOf; rw [if_pos rfl]
    rw [e, e, key_word s 0 (by decide), key_word t 0 (by decide), valR_zero]
    cases s <;> cases t <;> rfl

theorem signed_zero (s t : Bool) (k : Nat) : signed s 0 k = signed t 0 k := by
  unfold signed; cases s <;> cases t <;> simp

theorem nan_read {x : Nat} (h : nanF x = true) : ∃ a b, Ieee.double.read x = .nan a b := by
  rw [nan_key, decide_eq_true_iff] at h
  unfold key at h
  cases hd : Ieee.double.read x with
  | nan a b => exact ⟨a, b, rfl⟩
  | infinity a => rw [hd] at h; cases a <;> simp [dkey] at h
  | number a b c => rw [hd] at h; simp [dkey] at h

/-- '+' at words of one key: a NaN both times, or words of one key. -/
theorem add_congr {x y x' y' : Nat} (hx : key x = key x') (hy : key y = key y') :
    (Ieee.double.add x y = none ∧ Ieee.double.add x' y' = none) ∨ ∃ s s', Ieee.double.add x y = some s ∧ Ieee.double.add x' y' = some s' ∧ key s = key s' := by
  unfold Format.add
  rcases same_read hx with ⟨n1, n2⟩ | ⟨s, e1, e2⟩ | ⟨s, s', m, i, e1, e2, hs⟩
  · obtain ⟨_, _, r1⟩ := nan_read n1
    obtain ⟨_, _, r2⟩ := nan_read n2
    left
    rw [r1, r2]
    exact ⟨rfl, rfl⟩
  · rw [e1, e2]
    rcases same_read hy with ⟨n1, n2⟩ | ⟨t, f1, f2⟩ | ⟨t, t', n, j, f1, f2, ht⟩
    · obtain ⟨_, _, r1⟩ := nan_read n1
      obtain ⟨_, _, r2⟩ := nan_read n2
      left
      rw [r1, r2]
      exact ⟨rfl, rfl⟩
    · rw [f1, f2]
      by_cases c : s = t
      · subst c
        have e : (Datum.infinity s).sum (.infinity s) = some (.infinity s) := by simp [Datum.sum]
        rw [e]
        right; exact ⟨_, _, rfl, rfl, rfl⟩
      · left; simp [Datum.sum, c]
    · rw [f1, f2]
      right; exact ⟨_, _, rfl, rfl, rfl⟩
  · rw [e1, e2]
    rcases same_read hy with ⟨n1, n2⟩ | ⟨t, f1, f2⟩ | ⟨t, t', n, j, f1, f2, ht⟩
    · obtain ⟨_, _, r1⟩ := nan_read n1
      obtain ⟨_, _, r2⟩ := nan_read n2
      left
      rw [r1, r2]
      exact ⟨rfl, rfl⟩
    · rw [f1, f2]
      right; exact ⟨_, _, rfl, rfl, rfl⟩
    · rw [f1, f2]
      right
      refine ⟨_, _, rfl, rfl, ?_⟩
      have g1 : signed s m (i - min i j).toNat = signed s' m (i - min i j).toNat := by
        rcases hs with rfl | rfl
        · rfl
        · exact signed_zero _ _ _
      have g2 : signed t n (j - min i j).toNat = signed t' n (j - min i j).toNat := by
        rcases ht with rfl | rfl
        · rfl
        · exact signed_zero _ _ _
      show key (Ieee.double.nearest _ _ _) = key (Ieee.double.nearest _ _ _)
      simp only [g1, g2]
      refine key_nearest _ _ _ _ ?_
      by_cases c : signed s' m (i - min i j).toNat + signed t' n (j - min i j).toNat = 0
      · right; rw [c]; rfl
      · left; rw [if_neg c, if_neg c]

theorem div_congr {s s' r r' : Nat} (h : key s = key s') (h1 : Ieee.double.div s two = some r) (h2 : Ieee.double.div s' two = some r') : key r = key r' := by
  unfold Format.div at h1 h2
  rw [read_two'] at h1 h2
  rcases same_read h with ⟨n1, _⟩ | ⟨t, e1, e2⟩ | ⟨t, t', m, i, e1, e2, ht⟩
  · obtain ⟨_, _, r1⟩ := nan_read n1
    rw [r1] at h1
    simp [Datum.quotient] at h1
  · rw [e1] at h1
    rw [e2] at h2
    rw [h1] at h2
    simp only [Option.some.injEq] at h2
    rw [h2]
  · rw [e1] at h1
    rw [e2] at h2
    simp only [Datum.quotient] at h1 h2
    rw [if_neg (by decide)] at h1 h2
    simp only [Option.map_some, Option.some.injEq, Bool.xor_false] at h1 h2
    rw [← h1, ← h2]
    show key (Ieee.double.nearest _ _ _) = key (Ieee.double.nearest _ _ _)
    refine key_nearest _ _ _ _ ?_
    rcases ht with rfl | rfl
    · exact .inl rfl
    · right; simp

theorem nan_key_eq {x y : Nat} (hx : nanF x = true) (hy : nanF y = true) : key x = key y := by
  obtain ⟨_, _, r1⟩ := nan_read hx
  obtain ⟨_, _, r2⟩ := nan_read hy
  unfold key
  rw [r1, r2]
  rfl

/-- '(x + y) / 2' at words of one key. -/
theorem mid_congr {x y x' y' r r' : Nat} (hx : key x = key x') (hy : key y = key y') (h : MidOf x y r) (h' : MidOf x' y' r') : key r = key r' := by
  rcases add_congr hx hy with ⟨a1, a2⟩ | ⟨s, s', a1, a2, hs⟩
  · rcases h with ⟨_, c, _⟩ | ⟨_, n1⟩
    · rw [a1] at c; cases c
    · rcases h' with ⟨_, c, _⟩ | ⟨_, n2⟩
      · rw [a2] at c; cases c
      · exact nan_key_eq n1 n2
  · rcases h with ⟨u, c, d⟩ | ⟨c, _⟩
    · rcases h' with ⟨u', c', d'⟩ | ⟨c', _⟩
      · rw [a1, Option.some.injEq] at c
        rw [a2, Option.some.injEq] at c'
        subst c c'
        exact div_congr hs d d'
      · rw [a2] at c'; cases c'
    · rw [a1] at c; cases c

/-! ### Found by counting -/
/-- So many rank strictly before x; so many do not rank behind it. -/
def cntLt (zs : List Nat) (x k : Nat) : Nat := (zs.take k).countP (fun y => ltF y x)
def cntNg (zs : List Nat) (x k : Nat) : Nat := (zs.take k).countP (fun y => !ltF x y)
/-- The law's own test. -/
def hits (zs : List Nat) (k x : Nat) : Prop := cntLt zs x zs.length ≤ k ∧ k < cntNg zs x zs.length

theorem countP_le_take (p : Nat → Bool) (T : List Nat) (m : Nat) (h : ∀ i, m ≤ i → i < T.length → p (T.getD i 0) = false) : T.countP p ≤ m := by
  have e : T = T.take m ++ T.drop m := (List.take_append_drop m T).symm
  rw [e, List.countP_append]
  have h1 : (T.drop m).countP p = 0 := List.countP_eq_zero.2 (fun a ha => by
    obtain ⟨i, hi, rfl⟩ := List.getElem_of_mem ha
    rw [List.length_drop] at hi
    have := h (m + i) (by omega) (by omega)
    rw [List.getD_eq_getElem?_getD, List.getElem?_eq_getElem (by omega)] at this
    simpa using this)
  have h2 : (T.take m).countP p ≤ (T.take m).length := List.countP_le_length
  rw [List.length_take] at h2
  omega

theorem ranked_key {zs : List Nat} {k x : Nat} (hk : k < zs.length) (h : hits zs k x) : key x = key ((sortL zs).getD k 0) := by
  obtain ⟨h1, h2⟩ := h
  have hp := sortL_perm zs
  have hl := sortL_len zs
  have c1 : cntLt zs x zs.length = (sortL zs).countP (fun y => ltF y x) := by
    unfold cntLt; rw [List.take_length]; exact (hp.countP_eq _).symm
  have c2 : cntNg zs x zs.length = (sortL zs).countP (fun y => !ltF x y) := by
    unfold cntNg; rw [List.take_length]; exact (hp.countP_eq _).symm
  rw [c1] at h1
  rw [c2] at h2
  -- not greater, not less: so the same
  have n1 : lexLt (key ((sortL zs).getD k 0)) (key x) = false := by
    cases hc : lexLt (key ((sortL zs).getD k 0)) (key x) with
    | false => rfl
    | true =>
      exfalso
      have := countP_ge_take (fun y => ltF y x) (sortL zs) (k + 1) (by omega) (fun i hi => by
        have := lexLt_not.1 (sortL_sorted zs i k (by omega) (by omega))
        have hc' := lexLt_iff.1 hc
        rw [lt_key]
        exact lexLt_iff.2 (by omega))
      omega
  have n2 : lexLt (key x) (key ((sortL zs).getD k 0)) = false := by
    cases hc : lexLt (key x) (key ((sortL zs).getD k 0)) with
    | false => rfl
    | true =>
      exfalso
      have := countP_le_take (fun y => !ltF x y) (sortL zs) k (fun i h3 h4 => by
        have := lexLt_not.1 (sortL_sorted zs k i h3 (by omega))
        have hc' := lexLt_iff.1 hc
        rw [lt_key]
        simp only [Bool.not_eq_false']
        exact lexLt_iff.2 (by omega))
      omega
  have m1 := lexLt_not.1 n1
  have m2 := lexLt_not.1 n2
  exact Prod.ext (by omega) (by omega)

theorem ranked_some {zs : List Nat} {k : Nat} (hk : k < zs.length) : ∃ i, i < zs.length ∧ hits zs k (zs.getD i 0) := by
  have hp := sortL_perm zs
  have hl := sortL_len zs
  have hm : (sortL zs).getD k 0 ∈ sortL zs := by
    rw [List.getD_eq_getElem?_getD, List.getElem?_eq_getElem (by omega)]
    exact List.getElem_mem _
  obtain ⟨j, hj, e⟩ := List.getElem_of_mem (hp.mem_iff.1 hm)
  have ej : zs.getD j 0 = (sortL zs).getD k 0 := by
    rw [← e, List.getD_eq_getElem?_getD, List.getElem?_eq_getElem hj]; rfl
  refine ⟨j, hj, ?_⟩
  rw [ej]
  unfold hits cntLt cntNg
  rw [List.take_length, ← hp.countP_eq, ← hp.countP_eq]
  refine ⟨countP_le_take _ _ _ (fun i h3 h4 => ?_), ?_⟩
  · rw [lt_key]; exact sortL_sorted zs k i h3 (by omega)
  · refine countP_ge_take _ _ (k + 1) (by omega) (fun i hi => ?_)
    rw [lt_key, sortL_sorted zs i k (by omega) (by omega)]
    rfl

end Go.Proofs

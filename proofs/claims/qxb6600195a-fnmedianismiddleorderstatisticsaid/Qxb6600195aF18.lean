/-
  bench.Median (8) at a slice that is not empty: the middle of what the sort leaves; of an even count, the mean of the two middle ones.
-/
import Derived.Test.Qxb6600195aF17
import Derived.Test.Qxb6600195aNum
import Derived.RegionIn
import Derived.Deep.QuietTactic
import Derived.BigQuiet
namespace Go.Proofs
open Go.RowKit Go.Shelf Go.Sort Go.Proofs.Qxb6600195a

/-- What Median may hand back of the sorted list T. -/
def IsMed (T : List Nat) (r : Nat) : Prop :=
  if T.length % 2 = 1 then r = T.getD (T.length / 2) 0 else MidOf (T.getD (T.length / 2 - 1) 0) (T.getD (T.length / 2) 0) r

def MedPost (w : World) (T : List Nat) (e : Ending) (w' : World) : Prop := ∃ r, e = .returned (.float .f64 r) ∧ IsMed T r ∧ Go.RowKit.Below w.heap.size w w'

set_option maxRecDepth 100000 in
set_option maxHeartbeats 2000000 in
theorem Try.bench_Median (len cap b off : Nat) (zs : List Nat) (w : World) (hI : IsFl w (some ⟨b, off, none⟩) len b off zs) (hlen : len ≤ 1048576) (h1 : 1 ≤ len) :
    Calls Try.prog 8 #[.slice (some ⟨b, off, none⟩) len cap] w (MedPost w (sortL zs)) := by
  have hb : b < w.heap.size := hI.lt.resolve_left (by omega)
  have hS := Try.sorted_f w.heap.size len cap b off zs (w.alloc (.cells #[.slice (some ⟨b, off, none⟩) len cap] 22)) (by simp) (by simp) (hI.below ((Go.RowKit.Below.refl _ w).alloc (Nat.le_refl _) _) (.inr hb)) (by simp; omega) hlen h1
  have HS := hS
  have hTl : (sortL zs).length = len := by rw [sortL_len, hI.len]
  generalize sortL zs = T at HS hTl
  clear hS
  have HT : Hid (T.length = len) := hTl
  clear hTl
  have hz : ((len : Int) == 0) = false := beq_eq_false_iff_ne.2 (by omega)
  refine (callsIn_wide (n := 7)).1 ?_
  have hfV : Fence.wide.fn 14 := trivial
  have hfS : Fence.wide.fn 13 := trivial
  refine callsIn_of_wp Try.func8 rfl trivial ?_ rfl
  simp only [Try.ntmps8, List.size_toArray, List.length_cons, List.length_nil, Nat.reduceAdd, Nat.reduceSub, Array.replicate_succ, Array.replicate_zero, List.push_toArray, List.append_toArray, List.nil_append, List.cons_append]
  rcases Nat.mod_two_eq_zero_or_one len with hev | hod
  · have hm0 : ((len : Int) % 2 == 1) = false := beq_eq_false_iff_ne.2 (by omega)
    cases hadd : Ieee.double.add (T[len / 2 - 1]?.getD 0) (T[len / 2]?.getD 0) with
    | some s =>
      obtain ⟨q, hq⟩ : ∃ q, Ieee.double.div s two = some q := div_two_some (add_num hadd)
      have HM : Hid (MidOf (T.getD (len / 2 - 1) 0) (T.getD (len / 2) 0) q) := by
        rw [List.getD_eq_getElem?_getD, List.getD_eq_getElem?_getD]
        exact .inl ⟨s, hadd, hq⟩
      have ra := fun w t => run_add_ok (P := Try.prog) w t _ _ hadd
      have rd : ∀ w t, (binOp .quo t (.float .f64 s) (.float .f64 4611686018427387904)).run Try.prog w = .ok (.float .f64 q) w := fun w t => run_div_ok (P := Try.prog) w t s two hq
      clear hadd hq
      gi_wp2_with (first
        | (gi_at_call 14; refine (Try.values_call Fence.wide _ trivial rfl _ _ _ _).mono ?_; rintro e w' ⟨rfl, rfl⟩)
        | (gi_at_call 13; refine HS.mono ?_; rintro e w2 ⟨g, c, rfl, hI2, hb2⟩; have hcell := hI2.cells (len / 2) (by omega); rw [Nat.zero_add] at hcell; have hcell1 := hI2.cells (len / 2 - 1) (by omega); rw [Nat.zero_add] at hcell1))
      gi_region
      gi_wp2
      go_ret
      refine ⟨q, rfl, ?_, ((Go.RowKit.Below.refl _ w).alloc (Nat.le_refl _) _).trans (hb2.mono (by simp)).drew⟩
      unfold IsMed
      rw [HT.out, if_neg (by omega)]
      exact HM.out
    | none =>
      have ra := fun w t => run_add_nan (P := Try.prog) w t _ _ hadd
      have rd : ∀ u w t, (binOp .quo t (.float .f64 (nb u)) (.float .f64 4611686018427387904)).run Try.prog w = .ok (.float .f64 (nb (w.tape w.drawn (.nanBits .f64 (nb u) two)))) w.drew := fun u w t => run_div_nan (P := Try.prog) w t (nb u) two (div_none_of_nan (nb_nan u) _)
      have HM : Hid (∀ u, MidOf (T.getD (len / 2 - 1) 0) (T.getD (len / 2) 0) (nb u)) := fun u => by
        rw [List.getD_eq_getElem?_getD, List.getD_eq_getElem?_getD]
        exact .inr ⟨hadd, nb_nan u⟩
      clear hadd
      gi_wp2_with (first
        | (gi_at_call 14; refine (Try.values_call Fence.wide _ trivial rfl _ _ _ _).mono ?_; rintro e w' ⟨rfl, rfl⟩)
        | (gi_at_call 13; refine HS.mono ?_; rintro e w2 ⟨g, c, rfl, hI2, hb2⟩; have hcell := hI2.cells (len / 2) (by omega); rw [Nat.zero_add] at hcell; have hcell1 := hI2.cells (len / 2 - 1) (by omega); rw [Nat.zero_add] at hcell1))
      gi_region
      gi_wp2
      go_ret
      refine ⟨_, rfl, ?_, ((Go.RowKit.Below.refl _ w).alloc (Nat.le_refl _) _).trans (hb2.mono (by simp)).drew.drew.drew⟩
      unfold IsMed
      rw [HT.out, if_neg (by omega)]
      exact HM.out _
  · have hm1 : ((len : Int) % 2 == 1) = true := beq_iff_eq.2 (by omega)
    gi_wp2_with (first
      | (gi_at_call 14; refine (Try.values_call Fence.wide _ trivial rfl _ _ _ _).mono ?_; rintro e w' ⟨rfl, rfl⟩)
      | (gi_at_call 13; refine HS.mono ?_; rintro e w2 ⟨g, c, rfl, hI2, hb2⟩; have hcell := hI2.cells (len / 2) (by omega); rw [Nat.zero_add] at hcell))
    go_ret
    refine ⟨_, rfl, ?_, ((Go.RowKit.Below.refl _ w).alloc (Nat.le_refl _) _).trans (hb2.mono (by simp))⟩
    unfold IsMed
    rw [HT.out, if_pos hod, List.getD_eq_getElem?_getD]
end Go.Proofs

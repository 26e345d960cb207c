/-
  FnMedianIsMiddleOrderStatistic (3): the walk: it returns true.
-/
import Derived.Test.Qxb6600195aF20
namespace Go.Proofs
open Go.RowKit Go.Sort Go.Proofs.Qxb6600195a

/-- The law is met: true, and nothing old has turned. -/
def YesO (w : World) (e : Ending) (w' : World) : Prop := e = .returned (.bool true) ∧ Go.RowKit.Below w.heap.size w w'

def oneF : Nat := 4607182418800017408
def infF : Nat := 9218868437227405312
theorem order_zero : FloatKind.f64.format.order 0 0 = some .eq := by decide
theorem div_one_zero : Ieee.double.div oneF 0 = some infF := by decide
theorem order_inf : FloatKind.f64.format.order infF 0 = some .gt := by decide

theorem run_inv_zero (w : World) (ty : TypeId) : (binOp .quo ty (.float .f64 4607182418800017408) (.float .f64 0)).run Try.prog w = .ok (.float .f64 9218868437227405312) w := run_div_ok (P := Try.prog) w ty oneF 0 div_one_zero

theorem inf_gt : FloatKind.f64.format.order 9218868437227405312 0 = some .gt := order_inf

set_option maxRecDepth 100000 in
set_option maxHeartbeats 4000000 in
theorem Try.mid_none (a : Option Addr) (cap b off : Nat) (zs : List Nat) (w : World) (h : IsFl w a 0 b off zs) (hN : a = none → cap = 0) :
    Calls Try.prog 3 #[.slice a 0 cap] w (YesO w) := by
  have hq := order_zero
  have hg := inf_gt
  have hr := run_inv_zero
  have H : Hid (IsFl w a 0 b off zs) := h
  clear h
  cases a with
  | none =>
    obtain rfl := hN rfl
    go_enter Try.func3, Try.ntmps3
    go_wp2_with (first
      | (go_at_call 6; refine (Try.bytes6 none 0 0 w (Nat.zero_le _)).mono ?_; rintro e w' ⟨r, rfl, rfl, hr⟩)
      | (go_at_call 7; refine (Try.copy_nil w).mono ?_; rintro e w' ⟨rfl, rfl⟩)
      | (go_at_call 8; refine (Try.bench_Median_none none 0 _).mono ?_; rintro e w' ⟨rfl, rfl⟩))
    all_goals
      go_ret
      exact ⟨rfl, Go.RowKit.Below.refl _ _⟩
  | some x =>
    go_enter Try.func3, Try.ntmps3
    go_wp2_with (first
      | (go_at_call 6; refine (Try.bytes6 (some x) 0 cap w (Nat.zero_le _)).mono ?_; rintro e w' ⟨r, rfl, rfl, hr⟩)
      | (go_at_call 7; refine (Try.copy_some x 0 cap b off zs w H.out (by omega)).mono ?_; rintro e w1 ⟨g, c, rfl, hI, hb1⟩; have HB1 : Hid _ := hb1; clear hI hb1)
      | (go_at_call 8; refine (Try.bench_Median_none _ _ _).mono ?_; rintro e w' ⟨rfl, rfl⟩))
    · go_ret
      exact ⟨rfl, Go.RowKit.Below.refl _ _⟩
    · go_ret
      exact ⟨rfl, HB1.out⟩

theorem Try.ranked_at (n cap b off : Nat) (zs : List Nat) (k : Nat) (w : World) (hI : IsFl w (some ⟨b, off, none⟩) n b off zs) (hn : n ≤ 131072) (hk : k < n) (i : Int) (hi : i = (k : Int)) :
    Calls Try.prog 10 #[.slice (some ⟨b, off, none⟩) n cap, .int .i64 i] w (RankedPost w zs k) := by
  subst hi
  exact Try.ranked_f n cap b off zs k w hI hn hk

theorem IsFl.drewN {w : World} {a : Option Addr} {n b off : Nat} {zs : List Nat} (h : IsFl w a n b off zs) (q : Nat) : IsFl (w.drewN q) a n b off zs := ⟨h.len, h.addr, h.lt, h.cells⟩

set_option maxRecDepth 100000 in
set_option maxHeartbeats 4000000 in
theorem Try.mid_walk (a : Option Addr) (n cap b off : Nat) (zs : List Nat) (w : World) (h : IsFl w a n b off zs) (hn : n ≤ maxLen) (hN : a = none → n = 0 ∧ cap = 0) :
    Calls Try.prog 3 #[.slice a n cap] w (YesO w) := by
  rcases Nat.eq_zero_or_pos n with hz | hz
  · subst hz
    exact Try.mid_none a cap b off zs w h (fun e => (hN e).2)
  clear hN
  have hz0 : ((n : Int) == 0) = false := beq_eq_false_iff_ne.2 (by omega)
  have H : Hid (IsFl w a n b off zs) := h
  clear h
  obtain rfl : a = some ⟨b, off, none⟩ := H.out.addr.resolve_left (by omega)
  by_cases hbig : 131072 < n
  · go_enter Try.func3, Try.ntmps3
    go_wp2_with (go_at_call 6; refine (Try.bytes6 _ n cap w hn).mono ?_; rintro e w' ⟨r, rfl, rfl, hr⟩)
    all_goals
      go_ret
      exact ⟨rfl, Go.RowKit.Below.refl _ _⟩
  have hbig' : ¬ ((131072 : Int) < (n : Int)) := by omega
  rcases Nat.mod_two_eq_zero_or_one n with hev | hod
  · have hm0 : ((n : Int) % 2 == 1) = false := beq_eq_false_iff_ne.2 (by omega)
    go_enter Try.func3, Try.ntmps3
    go_wp2_with (first
      | (go_at_call 6; refine (Try.bytes6 _ n cap w hn).mono ?_; rintro e w' ⟨r, rfl, rfl, hr⟩)
      | (go_at_call 7; refine (Try.copy_some _ n cap b off zs w H.out (by omega)).mono ?_; rintro e w1 ⟨g, c, rfl, hI, hb1⟩; have HI : Hid (IsFl w1 (some ⟨g, 0, none⟩) n g 0 zs) := hI; have HB1 : Hid (Go.RowKit.Below w.heap.size w w1) := hb1; clear hI hb1)
      | (go_at_call 8; refine (Try.bench_Median n c g 0 zs w1 HI.out (by omega) hz).mono ?_; rintro e w2 ⟨m, rfl, hmed, hb2⟩; have HM : Hid (IsMed (sortL zs) m) := hmed; have HI2 : Hid (IsFl w2 (some ⟨g, 0, none⟩) n g 0 zs) := HI.out.below hb2 HI.out.lt; have HB2 : Hid (Go.RowKit.Below w1.heap.size w1 w2) := hb2; clear hmed hb2))
    · go_ret
      exact ⟨rfl, Go.RowKit.Below.refl _ _⟩
    · refine (Try.ranked_at n c g 0 zs (n / 2 - 1) w2 HI2.out (by omega) (by omega) ((n : Int) / 2 - 1) (by omega)).mono ?_
      rintro e w3 ⟨lo, q, rfl, hlo, rfl⟩
      have HLO : Hid (key lo = key ((sortL zs).getD (n / 2 - 1) 0)) := hlo
      clear hlo
      go_wp2_with (go_at_call 9)
      refine (Try.ranked_at n c g 0 zs (n / 2) (w2.drewN q) (HI2.out.drewN q) (by omega) (by omega) ((n : Int) / 2) (by omega)).mono ?_
      rintro e w3 ⟨up, q2, rfl, hup, rfl⟩
      have HUP : Hid (key up = key ((sortL zs).getD (n / 2) 0)) := hup
      clear hup
      have HMM : Hid (∀ r, MidOf lo up r → key m = key r) := fun r h => by
        have h1 := HM.out
        unfold IsMed at h1
        rw [sortL_len, H.out.len, if_neg (by omega)] at h1
        exact mid_congr HLO.out.symm HUP.out.symm h1 h
      cases hadd : Ieee.double.add lo up with
      | some s =>
        obtain ⟨qq, hq⟩ : ∃ q, Ieee.double.div s two = some q := div_two_some (add_num hadd)
        have HK : Hid (key m = key qq) := HMM.out qq (.inl ⟨s, hadd, hq⟩)
        have ra := fun w t => run_add_ok (P := Try.prog) w t _ _ hadd
        have rd : ∀ w t, (binOp .quo t (.float .f64 s) (.float .f64 4611686018427387904)).run Try.prog w = .ok (.float .f64 qq) w := fun w t => run_div_ok (P := Try.prog) w t s two hq
        clear hadd hq
        go_wp2_with (go_at_call 9; refine (Try.same_f _ _ _ HK.out).mono ?_; rintro e w' ⟨rfl, rfl⟩)
        go_ret
        exact ⟨rfl, below_drewN (HB1.out.trans (HB2.out.mono HB1.out.size)) _⟩
      | none =>
        have ra := fun w t => run_add_nan (P := Try.prog) w t _ _ hadd
        have rd : ∀ u w t, (binOp .quo t (.float .f64 (nb u)) (.float .f64 4611686018427387904)).run Try.prog w = .ok (.float .f64 (nb (w.tape w.drawn (.nanBits .f64 (nb u) two)))) w.drew := fun u w t => run_div_nan (P := Try.prog) w t (nb u) two (div_none_of_nan (nb_nan u) _)
        have HK : Hid (∀ u, key m = key (nb u)) := fun u => HMM.out _ (.inr ⟨hadd, nb_nan u⟩)
        clear hadd
        go_wp2_with (go_at_call 9; refine (Try.same_f _ _ _ (HK.out _)).mono ?_; rintro e w' ⟨rfl, rfl⟩)
        go_ret
        exact ⟨rfl, (below_drewN (HB1.out.trans (HB2.out.mono HB1.out.size)) _).drew.drew⟩
  · have hm1 : ((n : Int) % 2 == 1) = true := beq_iff_eq.2 (by omega)
    go_enter Try.func3, Try.ntmps3
    go_wp2_with (first
      | (go_at_call 6; refine (Try.bytes6 _ n cap w hn).mono ?_; rintro e w' ⟨r, rfl, rfl, hr⟩)
      | (go_at_call 7; refine (Try.copy_some _ n cap b off zs w H.out (by omega)).mono ?_; rintro e w1 ⟨g, c, rfl, hI, hb1⟩; have HI : Hid (IsFl w1 (some ⟨g, 0, none⟩) n g 0 zs) := hI; have HB1 : Hid (Go.RowKit.Below w.heap.size w w1) := hb1; clear hI hb1)
      | (go_at_call 8; refine (Try.bench_Median n c g 0 zs w1 HI.out (by omega) hz).mono ?_; rintro e w2 ⟨m, rfl, hmed, hb2⟩; have HM : Hid (IsMed (sortL zs) m) := hmed; have HI2 : Hid (IsFl w2 (some ⟨g, 0, none⟩) n g 0 zs) := HI.out.below hb2 HI.out.lt; have HB2 : Hid (Go.RowKit.Below w1.heap.size w1 w2) := hb2; clear hmed hb2))
    · go_ret
      exact ⟨rfl, Go.RowKit.Below.refl _ _⟩
    · refine (Try.ranked_at n c g 0 zs (n / 2) w2 HI2.out (by omega) (by omega) _ (by omega)).mono ?_
      rintro e w3 ⟨up, q, rfl, hup, rfl⟩
      have HK : Hid (key m = key up) := by
        have h1 := HM.out
        unfold IsMed at h1
        rw [sortL_len, H.out.len, if_pos hod] at h1
        unfold Hid
        rw [hup, h1]
      clear hup
      go_wp2_with (go_at_call 9; refine (Try.same_f _ _ _ HK.out).mono ?_; rintro e w' ⟨rfl, rfl⟩)
      go_ret
      exact ⟨rfl, below_drewN (HB1.out.trans (HB2.out.mono HB1.out.size)) _⟩
end Go.Proofs

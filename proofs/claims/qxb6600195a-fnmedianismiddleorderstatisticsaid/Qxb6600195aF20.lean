/-
  zzIsNaN (15), zzBefore (16), zzSameClass (9), zzRanked (10), and Median (8) at no run.
-/
import Derived.Test.Qxb6600195aF19
import Derived.Test.Qxb6600195aMid
namespace Go.Proofs
open Go.RowKit Go.Sort Go.Proofs.Qxb6600195a

set_option maxHeartbeats 400000 in
theorem Try.isNaN_z (x : Nat) (w : World) : Calls Try.prog 15 #[.float .f64 x] w fun e w' => e = .returned (.bool (nanF x)) ∧ w' = w := by
  go_enter Try.func15, Try.ntmps15
  go_wp2
  go_ret
  exact ⟨rfl, rfl⟩

theorem ltF_nan {x y : Nat} (h : nanF x = true) : ltF x y = !nanF y := by
  have ho : Ieee.double.order x y = none := by
    rw [nan_key, decide_eq_true_iff] at h
    rw [order_of, cmpKey, if_pos (.inl h)]
  unfold ltF
  rw [h, ho]
  cases nanF y <;> rfl

set_option maxHeartbeats 400000 in
theorem Try.before_f (x y : Nat) (w : World) : Calls Try.prog 16 #[.float .f64 x, .float .f64 y] w fun e w' => e = .returned (.bool (ltF x y)) ∧ w' = w := by
  cases hx : nanF x with
  | true =>
    have hl := ltF_nan (y := y) hx
    rw [hl]
    clear hl
    go_enter Try.func16, Try.ntmps16
    go_wp2_with (go_at_call 15; refine (Try.isNaN_z _ _).mono ?_; rintro e w' ⟨rfl, rfl⟩)
    go_ret
    exact ⟨rfl, rfl⟩
  | false =>
    have hl := ltF_o (x := x) (y := y) (by rw [hx]; exact Bool.false_ne_true)
    rw [hl]
    clear hl
    go_enter Try.func16, Try.ntmps16
    go_wp2_with (go_at_call 15; refine (Try.isNaN_z _ _).mono ?_; rintro e w' ⟨rfl, rfl⟩)
    go_ret
    exact ⟨rfl, rfl⟩

set_option maxHeartbeats 400000 in
theorem Try.same_f (x y : Nat) (w : World) (h : key x = key y) : Calls Try.prog 9 #[.float .f64 x, .float .f64 y] w fun e w' => e = .returned (.bool true) ∧ w' = w := by
  have hn : nanF y = nanF x := by rw [nan_key, nan_key, h]
  cases hx : nanF x with
  | true =>
    have hy : nanF y = true := by rw [hn, hx]
    clear hn h
    go_enter Try.func9, Try.ntmps9
    go_wp2_with (go_at_call 15; refine (Try.isNaN_z _ _).mono ?_; rintro e w' ⟨rfl, rfl⟩)
    go_ret
    exact ⟨rfl, rfl⟩
  | false =>
    have hy : nanF y = false := by rw [hn, hx]
    have ho : FloatKind.f64.format.order x y = some .eq := by
      show Ieee.double.order x y = _
      rw [nan_key, decide_eq_false_iff_not] at hx
      rw [order_of, ← h, cmpKey, if_neg (by simp [hx])]
      have : lexLt (key x) (key x) = false := lexLt_not.2 (by omega)
      simp [this]
    clear hn h
    go_enter Try.func9, Try.ntmps9
    go_wp2_with (go_at_call 15; refine (Try.isNaN_z _ _).mono ?_; rintro e w' ⟨rfl, rfl⟩)
    go_ret
    exact ⟨rfl, rfl⟩

set_option maxHeartbeats 400000 in
/-- Median at no run: +0. -/
theorem Try.bench_Median_none (a : Option Addr) (cap : Nat) (w : World) : Calls Try.prog 8 #[.slice a 0 cap] w fun e w' => e = .returned (.float .f64 0) ∧ w' = w := by
  go_enter Try.func8, Try.ntmps8
  go_wp2
  go_ret
  exact ⟨rfl, rfl⟩

def noHit (zs : List Nat) (k j : Nat) : Prop := ∀ i, i < j → ¬ hits zs k (zs.getD i 0)
def CntAt (zs : List Nat) (x t lt le : Nat) : Prop := lt = cntLt zs x t ∧ le = cntNg zs x t
def RankedPost (w : World) (zs : List Nat) (k : Nat) (e : Ending) (w' : World) : Prop :=
  ∃ r q, e = .returned (.float .f64 r) ∧ key r = key ((sortL zs).getD k 0) ∧ w' = w.drewN q

theorem cnt_at_step {zs : List Nat} {x t lt le : Nat} (ht : t < zs.length) (h : CntAt zs x t lt le) : CntAt zs x (t + 1) (lt + (ltF (zs.getD t 0) x).toNat) (le + (!ltF x (zs.getD t 0)).toNat) := by
  obtain ⟨rfl, rfl⟩ := h
  exact ⟨(cnt_step (fun y => ltF y x) ht rfl).symm, (cnt_step (fun y => !ltF x y) ht rfl).symm⟩

set_option maxRecDepth 100000 in
set_option maxHeartbeats 4000000 in
theorem Try.ranked_f (n cap b off : Nat) (zs : List Nat) (k : Nat) (w : World) (hI : IsFl w (some ⟨b, off, none⟩) n b off zs) (hn : n ≤ 131072) (hk : k < n) :
    Calls Try.prog 10 #[.slice (some ⟨b, off, none⟩) n cap, .int .i64 k] w (RankedPost w zs k) := by
  have hN : Hid (zs.length = n) := hI.len
  have HC : Hid (∀ q i, i < n → (w.drewN q).cell? ⟨b, off + i, none⟩ = some (.float .f64 (zs.getD i 0))) := fun _ => hI.cells
  clear hI
  go_enter Try.func10, Try.ntmps10
  go_wp2
  go_loopw [5] (fun s5 wr => ∃ (j q : Nat), j ≤ n ∧ s5 = .int .i64 j ∧ wr = w.drewN q ∧ noHit zs k j) (fun s5 _ => n - (RowKit.intOf s5).toNat)
  case atStart => exact ⟨0, 0, Nat.zero_le _, rfl, rfl, fun i hi => absurd hi (Nat.not_lt_zero _)⟩
  case round =>
    obtain ⟨j, q, hj, rfl, hwr, HNH⟩ := hrel
    by_cases hlt : j < n
    · have HW : Hid (wr = w.drewN q) := hwr
      clear hwr
      generalize hx : zs.getD j 0 = x
      have HX : Hid (zs.getD j 0 = x) := hx
      clear hx
      go_wp2
      go_loopw [6, 7, 8] (fun s6 s7 s8 wr2 => ∃ (t lt le q2 : Nat), t ≤ n ∧ s8 = .int .i64 t ∧ s6 = .int .i64 lt ∧ s7 = .int .i64 le ∧ lt ≤ t ∧ le ≤ t ∧ wr2 = w.drewN q2 ∧ CntAt zs x t lt le) (fun _ _ s8 _ => n - (RowKit.intOf s8).toNat)
      case atStart => exact ⟨0, 0, 0, q, Nat.zero_le _, rfl, rfl, rfl, Nat.le_refl _, Nat.le_refl _, HW.out, rfl, rfl⟩
      case round =>
        obtain ⟨t, lt, le, q2, ht, rfl, rfl, rfl, hlt1, hle1, hwr2, HCT⟩ := hrel
        by_cases hlt2 : t < n
        · have cx : wr.cell? ⟨b, off + j, none⟩ = some (.float .f64 x) := by rw [hwr2, ← HX.out]; exact HC.out q2 j hlt
          have cy : wr.cell? ⟨b, off + t, none⟩ = some (.float .f64 (zs.getD t 0)) := by rw [hwr2]; exact HC.out q2 t hlt2
          have HS := cnt_at_step (by rw [hN.out]; exact hlt2) HCT
          generalize zs.getD t 0 = y at cy HS
          have HW2 : Hid (wr = w.drewN q2) := hwr2
          have hjz : (j : Int) < (n : Int) := by omega
          have htz : (t : Int) < (n : Int) := by omega
          clear hwr2 HCT
          have B1 : Hid (∀ w, Calls Try.prog 16 #[.float .f64 y, .float .f64 x] w fun e w' => e = .returned (.bool (ltF y x)) ∧ w' = w) := fun w => Try.before_f y x w
          have B2 : Hid (∀ w, Calls Try.prog 16 #[.float .f64 x, .float .f64 y] w fun e w' => e = .returned (.bool (ltF x y)) ∧ w' = w) := fun w => Try.before_f x y w
          cases h1 : ltF y x <;> cases h2 : ltF x y
          all_goals
            rw [h1, h2] at HS
            rw [h1] at B1
            rw [h2] at B2
            have HSS : Hid _ := HS
            clear HS h1 h2
            go_wp2
            go_quiet (first | (go_at_call 16; refine Calls.quiet_of_same (B1.out _)))
            go_wp2
            revert nq
            intro nq1
            have cx2 : (wr.drewN nq1).cell? ⟨b, off + j, none⟩ = some (.float .f64 x) := cx
            have cy2 : (wr.drewN nq1).cell? ⟨b, off + t, none⟩ = some (.float .f64 y) := cy
            have HW3 : Hid (wr.drewN nq1 = w.drewN (q2 + nq1)) := by unfold Hid; rw [HW2.out, World.drewN_drewN]
            clear cx cy HW2
            generalize wr.drewN nq1 = wr2 at *
            go_quiet (first | (go_at_call 16; refine Calls.quiet_of_same (B2.out _)))
            go_wp2
            have HS2 := HSS.out
            simp only [Bool.toNat_false, Bool.toNat_true, Bool.not_true, Bool.not_false, Nat.add_zero] at HS2
            have HS3 : Hid _ := HS2
            clear HS2
            go_roundw
            case rel => exact ⟨t + 1, _, _, q2 + nq1 + nq, by omega, by go_num, by first | rfl | go_num, by first | rfl | go_num, by omega, by omega, by rw [HW3.out, World.drewN_drewN], HS3.out⟩
            case measure => simp [RowKit.intOf]; omega
        · obtain rfl : t = n := by omega
          have HW2 : Hid (wr = w.drewN q2) := hwr2
          have cx : wr.cell? ⟨b, off + j, none⟩ = some (.float .f64 x) := by rw [hwr2, ← HX.out]; exact HC.out q2 j hlt
          have hjz : (j : Int) < (t : Int) := by omega
          clear hwr2
          have HH : Hid (hits zs k x ↔ (lt ≤ k ∧ k < le)) := by
            unfold Hid hits
            rw [hN.out, ← HCT.1, ← HCT.2]
          by_cases c1 : lt ≤ k
          · by_cases c2 : k < le
            · have d1 : decide ((lt : Int) ≤ (k : Int)) = true := decide_eq_true (by omega)
              have d2 : decide ((k : Int) < (le : Int)) = true := decide_eq_true (by omega)
              go_wp2
              go_ret
              exact ⟨x, q2, rfl, ranked_key (by rw [hN.out]; exact hk) (HH.out.2 ⟨c1, c2⟩), HW2.out⟩
            · have d1 : decide ((lt : Int) ≤ (k : Int)) = true := decide_eq_true (by omega)
              have d2 : decide ((k : Int) < (le : Int)) = false := decide_eq_false (by omega)
              go_wp2
              go_roundw
              case rel =>
                refine ⟨j + 1, q2, by omega, by go_num, HW2.out, fun i hi => ?_⟩
                rcases Nat.lt_or_ge i j with h4 | h4
                · exact HNH i h4
                · obtain rfl : i = j := by omega
                  rw [HX.out, HH.out]
                  omega
              case measure => simp [RowKit.intOf]; omega
          · have d1 : decide ((lt : Int) ≤ (k : Int)) = false := decide_eq_false (by omega)
            go_wp2
            go_roundw
            case rel =>
              refine ⟨j + 1, q2, by omega, by go_num, HW2.out, fun i hi => ?_⟩
              rcases Nat.lt_or_ge i j with h4 | h4
              · exact HNH i h4
              · obtain rfl : i = j := by omega
                rw [HX.out, HH.out]
                omega
            case measure => simp [RowKit.intOf]; omega
    · exfalso
      obtain ⟨i, hi, h⟩ := ranked_some (zs := zs) (k := k) (by rw [hN.out]; exact hk)
      rw [hN.out] at hi
      exact HNH i (by omega) h
end Go.Proofs

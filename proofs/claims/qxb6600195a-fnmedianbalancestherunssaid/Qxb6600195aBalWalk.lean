/-
  FnMedianBalancesTheRuns (4): the walk: it returns true.
-/
import Derived.Test.Qxb6600195aF19
import Derived.Test.Qxb6600195aBal
namespace Go.Proofs
open Go.RowKit Go.Sort Go.Proofs.Qxb6600195a

/-- The law is met: true, and nothing old has turned. -/
def YesM (w : World) (e : Ending) (w' : World) : Prop := e = .returned (.bool true) ∧ Go.RowKit.Below w.heap.size w w'

/-- The first k runs are within the bounds. -/
def allBdd (zs : List Nat) (k : Nat) : Prop := ∀ j, j < k → bdd (zs.getD j 0) = true
/-- What the second loop holds. -/
def BalAt (zs : List Nat) (m j Lo Gr na nb : Nat) : Prop := lowAt zs j Lo ∧ highAt zs j Gr ∧ na = cntLe zs m j ∧ nb = cntGe zs m j

set_option maxRecDepth 100000 in
set_option maxHeartbeats 16000000 in
theorem Try.bal_walk (a : Option Addr) (n cap b off : Nat) (zs : List Nat) (w : World) (h : IsFl w a n b off zs) (hn : n ≤ maxLen) :
    Calls Try.prog 4 #[.slice a n cap] w (YesM w) := by
  have H : Hid (IsFl w a n b off zs) := h
  clear h
  rcases Nat.eq_zero_or_pos n with hz | hz
  · subst hz
    go_enter Try.func4, Try.ntmps4
    go_wp2_with (go_at_call 11; refine (Try.bytes11 a 0 cap w hn).mono ?_; rintro e w' ⟨r, rfl, rfl, hr⟩)
    all_goals
      go_ret
      exact ⟨rfl, Go.RowKit.Below.refl _ _⟩
  have hz0 : ((n : Int) == 0) = false := beq_eq_false_iff_ne.2 (by omega)
  obtain rfl : a = some ⟨b, off, none⟩ := H.out.addr.resolve_left (by omega)
  have hb : b < w.heap.size := H.out.lt.resolve_left (by omega)
  by_cases hbig : 131072 < n
  · go_enter Try.func4, Try.ntmps4
    go_wp2_with (go_at_call 11; refine (Try.bytes11 _ n cap w hn).mono ?_; rintro e w' ⟨r, rfl, rfl, hr⟩)
    all_goals
      go_ret
      exact ⟨rfl, Go.RowKit.Below.refl _ _⟩
  have hbig' : ¬ ((131072 : Int) < (n : Int)) := by omega
  go_enter Try.func4, Try.ntmps4
  go_wp2_with (go_at_call 11; refine (Try.bytes11 _ n cap w hn).mono ?_; rintro e w' ⟨r, rfl, rfl, hr⟩)
  · go_ret
    exact ⟨rfl, Go.RowKit.Below.refl _ _⟩
  obtain rfl : r = true := by simpa using ‹(!r) = false›
  clear hr
  go_loop [3] (fun i => ∃ k : Nat, k ≤ n ∧ i = .int .i64 k ∧ allBdd zs k) (fun i => n - (RowKit.intOf i).toNat)
  case atStart => exact ⟨0, Nat.zero_le _, rfl, fun j hj => absurd hj (Nat.not_lt_zero _)⟩
  case round =>
    obtain ⟨k, hk, rfl, HB⟩ := hrel
    by_cases hlt : k < n
    · have hc := H.out.cells k hlt
      generalize hs : zs.getD k 0 = z at hc
      have HZ : Hid (zs.getD k 0 = z) := hs
      clear hs
      go_wp2
      · go_ret
        exact ⟨rfl, Go.RowKit.Below.refl _ _⟩
      · have hbd : bdd z = true := bdd_of (p := FloatKind.f64.format.order z 18436746348640105523 == some .gt) (q := FloatKind.f64.format.order z 18436746348640105523 == some .eq) (r := FloatKind.f64.format.order z 9213374311785329715 == some .lt) (s := FloatKind.f64.format.order z 9213374311785329715 == some .eq) (by assumption)
        go_round
        case rel =>
          refine ⟨k + 1, by omega, by go_num, fun j hj => ?_⟩
          rcases Nat.lt_or_ge j k with h4 | h4
          · exact HB j h4
          · obtain rfl : j = k := by omega
            rw [HZ.out]; exact hbd
        case measure => simp [RowKit.intOf]; omega
      · go_ret
        exact ⟨rfl, Go.RowKit.Below.refl _ _⟩
    · obtain rfl : k = n := by omega
      have HN : Hid (zs.length = k) := H.out.len
      have HF : Hid (∀ j, j < k → Fin64 (zs.getD j 0)) := fun j hj => (bdd_rung (HB j hj)).1
      go_wp2_with (first
        | (go_at_call 7; refine (Try.copy_some ⟨b, off, none⟩ k cap b off zs w H.out (by omega)).mono ?_; rintro e w1 ⟨g, c, rfl, hI, hb1⟩; have HI : Hid (IsFl w1 (some ⟨g, 0, none⟩) k g 0 zs) := hI; clear hI)
        | (go_at_call 8; refine (Try.bench_Median k c g 0 zs w1 HI.out (by omega) hz).mono ?_; rintro e w2 ⟨m, rfl, hmed, hb2⟩; have HM : Hid (IsMed (sortL zs) m) := hmed; have hI2 := HI.out.below hb2 HI.out.lt; have hc0 := hI2.cells 0 (by omega); rw [Nat.zero_add] at hc0; have HI2 : Hid (IsFl w2 (some ⟨g, 0, none⟩) k g 0 zs) := hI2; clear hmed hI2))
      go_loop [5, 6, 7, 8, 9] (fun s5 s6 s7 s8 s9 => ∃ (j Lo Gr na nb : Nat), j ≤ k ∧ s9 = .int .i64 j ∧ s5 = .float .f64 Lo ∧ s6 = .float .f64 Gr ∧ s7 = .int .i64 na ∧ s8 = .int .i64 nb ∧ na ≤ j ∧ nb ≤ j ∧ BalAt zs m j Lo Gr na nb) (fun _ _ _ _ s9 => k - (RowKit.intOf s9).toNat)
      case atStart => exact ⟨0, _, _, 0, 0, Nat.zero_le _, rfl, rfl, rfl, rfl, rfl, Nat.le_refl _, Nat.le_refl _, ⟨by rw [← List.getD_eq_getElem?_getD]; exact HF.out 0 (by omega), fun i hi => absurd hi (Nat.not_lt_zero _)⟩, ⟨by rw [← List.getD_eq_getElem?_getD]; exact HF.out 0 (by omega), fun i hi => absurd hi (Nat.not_lt_zero _)⟩, rfl, rfl⟩
      case round =>
        obtain ⟨j, Lo, Gr, na, nb, hj, rfl, rfl, rfl, rfl, rfl, hna, hnb, HR⟩ := hrel
        have fm : Fin64 m := med_fin (by rw [HN.out]; exact hz) (by rw [HN.out]; exact HB) HM.out
        by_cases hlt2 : j < k
        · have hcj := HI2.out.cells j hlt2
          rw [Nat.zero_add] at hcj
          have fx := HF.out j hlt2
          have sLe := cnt_step (zs := zs) (k := j) (leB · m) (by rw [HN.out]; exact hlt2) rfl
          have sGe := cnt_step (zs := zs) (k := j) (geB · m) (by rw [HN.out]; exact hlt2) rfl
          generalize hx : zs.getD j 0 = x at hcj fx sLe sGe
          have HX : Hid (zs.getD j 0 = x) := hx
          have SL : Hid (cntLe zs m (j + 1) = cntLe zs m j + (leB x m).toNat) := sLe
          have SG : Hid (cntGe zs m (j + 1) = cntGe zs m j + (geB x m).toNat) := sGe
          have FX : Hid (Fin64 x) := fx
          clear hx sLe sGe hc0
          obtain ⟨hlow, hhigh, hca, hcb⟩ := HR
          have HLW : Hid (∃ Lo', Lo' = (if val x < val Lo then x else Lo) ∧ lowAt zs (j + 1) Lo') := by
            refine ⟨_, rfl, ?_⟩
            split
            · exact low_go HX.out fx ‹_› hlow
            · exact low_stay HX.out ‹_› hlow
          have HHG : Hid (∃ Gr', Gr' = (if val Gr < val x then x else Gr) ∧ highAt zs (j + 1) Gr') := by
            refine ⟨_, rfl, ?_⟩
            split
            · exact high_go HX.out fx ‹_› hhigh
            · exact high_stay HX.out ‹_› hhigh
          have HCA : Hid (na = cntLe zs m j) := hca
          have HCB : Hid (nb = cntGe zs m j) := hcb
          have t1 := ord_three fx hlow.1
          have t2 := ord_three fx hhigh.1
          have t3 := ord_three fx fm
          clear hlow hhigh hca hcb fx
          rcases t3 with ⟨o3, _⟩ | ⟨o3, _⟩ | ⟨o3, _⟩
          · skip
            rcases t1 with ⟨o1, v1⟩ | ⟨o1, v1⟩ | ⟨o1, v1⟩ <;> rcases t2 with ⟨o2, v2⟩ | ⟨o2, v2⟩ | ⟨o2, v2⟩
            all_goals
              have V1 : Hid _ := v1
              have V2 : Hid _ := v2
              have hle : leB x m = true := by unfold leB; rw [o3]; rfl
              have hge : geB x m = false := by unfold geB; rw [o3]; rfl
              have CA : Hid (na + 1 = cntLe zs m (j + 1)) := by unfold Hid; rw [SL.out, ← HCA.out, hle]; rfl
              have CB : Hid (nb = cntGe zs m (j + 1)) := by unfold Hid; rw [SG.out, ← HCB.out, hge]; rfl
              clear v1 v2 hle hge
              go_wp2
              go_round
              case rel =>
                refine ⟨j + 1, _, _, na + 1, nb, by omega, by go_num, rfl, rfl, by first | rfl | go_num, by first | rfl | go_num, by omega, by omega, ?_, ?_, CA.out, CB.out⟩
                · obtain ⟨_, e, h⟩ := HLW.out
                  first
                    | (rw [if_pos V1.out] at e; rw [e] at h; exact h)
                    | (rw [if_neg (by have := V1.out; omega)] at e; rw [e] at h; exact h)
                · obtain ⟨_, e, h⟩ := HHG.out
                  first
                    | (rw [if_pos V2.out] at e; rw [e] at h; exact h)
                    | (rw [if_neg (by have := V2.out; omega)] at e; rw [e] at h; exact h)
              case measure => simp [RowKit.intOf]; omega
          · skip
            rcases t1 with ⟨o1, v1⟩ | ⟨o1, v1⟩ | ⟨o1, v1⟩ <;> rcases t2 with ⟨o2, v2⟩ | ⟨o2, v2⟩ | ⟨o2, v2⟩
            all_goals
              have V1 : Hid _ := v1
              have V2 : Hid _ := v2
              have hle : leB x m = true := by unfold leB; rw [o3]; rfl
              have hge : geB x m = true := by unfold geB; rw [o3]; rfl
              have CA : Hid (na + 1 = cntLe zs m (j + 1)) := by unfold Hid; rw [SL.out, ← HCA.out, hle]; rfl
              have CB : Hid (nb + 1 = cntGe zs m (j + 1)) := by unfold Hid; rw [SG.out, ← HCB.out, hge]; rfl
              clear v1 v2 hle hge
              go_wp2
              go_round
              case rel =>
                refine ⟨j + 1, _, _, na + 1, nb + 1, by omega, by go_num, rfl, rfl, by first | rfl | go_num, by first | rfl | go_num, by omega, by omega, ?_, ?_, CA.out, CB.out⟩
                · obtain ⟨_, e, h⟩ := HLW.out
                  first
                    | (rw [if_pos V1.out] at e; rw [e] at h; exact h)
                    | (rw [if_neg (by have := V1.out; omega)] at e; rw [e] at h; exact h)
                · obtain ⟨_, e, h⟩ := HHG.out
                  first
                    | (rw [if_pos V2.out] at e; rw [e] at h; exact h)
                    | (rw [if_neg (by have := V2.out; omega)] at e; rw [e] at h; exact h)
              case measure => simp [RowKit.intOf]; omega
          · skip
            rcases t1 with ⟨o1, v1⟩ | ⟨o1, v1⟩ | ⟨o1, v1⟩ <;> rcases t2 with ⟨o2, v2⟩ | ⟨o2, v2⟩ | ⟨o2, v2⟩
            all_goals
              have V1 : Hid _ := v1
              have V2 : Hid _ := v2
              have hle : leB x m = false := by unfold leB; rw [o3]; rfl
              have hge : geB x m = true := by unfold geB; rw [o3]; rfl
              have CA : Hid (na = cntLe zs m (j + 1)) := by unfold Hid; rw [SL.out, ← HCA.out, hle]; rfl
              have CB : Hid (nb + 1 = cntGe zs m (j + 1)) := by unfold Hid; rw [SG.out, ← HCB.out, hge]; rfl
              clear v1 v2 hle hge
              go_wp2
              go_round
              case rel =>
                refine ⟨j + 1, _, _, na, nb + 1, by omega, by go_num, rfl, rfl, by first | rfl | go_num, by first | rfl | go_num, by omega, by omega, ?_, ?_, CA.out, CB.out⟩
                · obtain ⟨_, e, h⟩ := HLW.out
                  first
                    | (rw [if_pos V1.out] at e; rw [e] at h; exact h)
                    | (rw [if_neg (by have := V1.out; omega)] at e; rw [e] at h; exact h)
                · obtain ⟨_, e, h⟩ := HHG.out
                  first
                    | (rw [if_pos V2.out] at e; rw [e] at h; exact h)
                    | (rw [if_neg (by have := V2.out; omega)] at e; rw [e] at h; exact h)
              case measure => simp [RowKit.intOf]; omega
        · obtain rfl : j = k := by omega
          obtain ⟨hlow, hhigh, hca, hcb⟩ := HR
          have hN := HN.out
          have hbal := balances (zs := zs) (g := m) (Lo := Lo) (Gr := Gr) (by rw [hN]; exact hz) (by rw [hN]; exact HB) HM.out (by rw [hN]; exact hlow) (by rw [hN]; exact hhigh)
          rw [hN, ← hca, ← hcb] at hbal
          obtain ⟨_, b1, b2, b3, b4⟩ := hbal
          have b3' : (j : Int) ≤ 2 * (na : Int) := by omega
          have b4' : (j : Int) ≤ 2 * (nb : Int) := by omega
          have t1 := ord_three hlow.1 fm
          have t2 := ord_three fm hhigh.1
          clear hlow hhigh hca hcb hN b3 b4 hc0
          rcases t1 with ⟨o1, _⟩ | ⟨o1, _⟩ | ⟨o1, v1⟩
          · rcases t2 with ⟨o2, _⟩ | ⟨o2, _⟩ | ⟨o2, v2⟩
            · go_wp2
              go_ret
              exact ⟨rfl, hb1.trans (hb2.mono hb1.size)⟩
            · go_wp2
              go_ret
              exact ⟨rfl, hb1.trans (hb2.mono hb1.size)⟩
            · omega
          · rcases t2 with ⟨o2, _⟩ | ⟨o2, _⟩ | ⟨o2, v2⟩
            · go_wp2
              go_ret
              exact ⟨rfl, hb1.trans (hb2.mono hb1.size)⟩
            · go_wp2
              go_ret
              exact ⟨rfl, hb1.trans (hb2.mono hb1.size)⟩
            · omega
          · omega
end Go.Proofs

/-
  FnListKindsParsesBack (5): the walk: it returns true.
-/
import Derived.Test.Qxb6002457aZZ
import Derived.Test.Qxb6002457aBytes13
import Derived.Test.Qxb6002457aParse
import Derived.Deep.QuietTactic
import Derived.BigQuiet
namespace Go.Proofs.Qxb6002457a
open Go.RowKit

/-- The law is met: true, and nothing old has turned. -/
def YesB (w : World) (e : Ending) (w' : World) : Prop := e = .returned (.bool true) ∧ Below w.heap.size w w'

/-- What zzParseList hands back, as the walk reads it. -/
def ParsedAs (w : World) (n : Nat) (ss : List ByteArray) (e : Ending) (w' : World) : Prop :=
  ∃ (a' : Option Addr) (c' g' : Nat), e = .returned (.tuple #[.slice a' n c', .bool true]) ∧ IsStrs w' a' n g' 0 ss ∧ Below w.heap.size w w'

theorem parsed_as {w : World} {ss : List ByteArray} {e : Ending} {w' : World} {n : Nat} (h : Parsed w ss e w') (hn : ss.length = n) : ParsedAs w n ss e w' := by
  subst hn
  obtain ⟨v, rfl, ho, hb⟩ := h
  have ho' := ho
  rcases ho.2 with ⟨rfl, h0⟩ | ⟨g, c, cur, rfl, _, hg, _⟩
  · refine ⟨none, 0, 0, ?_, ⟨rfl, .inl h0, .inl h0, fun i hi => absurd hi (by omega)⟩, hb⟩
    rw [h0]
  · refine ⟨some ⟨g, 0, none⟩, c, g, rfl, ⟨rfl, .inr rfl, .inr (lt_of_block hg), fun i hi => ?_⟩, hb⟩
    rw [Nat.zero_add, ho'.cellAt i (by omega)]
    simp [List.getElem?_eq_getElem hi]

theorem IsStrs.drewN {w : World} {a : Option Addr} {n b off : Nat} {ss : List ByteArray} (h : IsStrs w a n b off ss) (m : Nat) : IsStrs (w.drewN m) a n b off ss :=
  ⟨h.len, h.addr, h.lt, h.cells⟩

theorem still_drewN {w wr : World} {a a' : Option Addr} {n b b' off off' : Nat} {ss : List ByteArray} (h : IsStrs wr a n b off ss ∧ IsStrs wr a' n b' off' ss ∧ Below w.heap.size w wr) (m : Nat) :
    IsStrs (wr.drewN m) a n b off ss ∧ IsStrs (wr.drewN m) a' n b' off' ss ∧ Below w.heap.size w (wr.drewN m) :=
  ⟨h.1.drewN m, h.2.1.drewN m, ⟨h.2.2.os, h.2.2.tape, h.2.2.output, h.2.2.size, h.2.2.block⟩⟩

set_option maxHeartbeats 1600000 in
theorem back_walk (a : Option Addr) (n cap b off : Nat) (ss : List ByteArray) (w : World) (h : IsStrs w a n b off ss) (h0 : a = none → n = 0 ∧ cap = 0) (hn : n ≤ maxLen) :
    Calls Try.prog 5 #[.slice a n cap] w (YesB w) := by
  have H0 : Hid (a = none → n = 0 ∧ cap = 0) := h0
  have H : Hid (IsStrs w a n b off ss) := h
  clear h h0
  go_enter Try.func5, Try.ntmps5
  go_wp2_with (go_at_call 13; refine (bytes13 a n cap b off ss w H.out hn).mono ?_; rintro e w' ⟨r, rfl, rfl, hr⟩)
  · go_ret
    exact ⟨rfl, Below.refl _ _⟩
  have hr' : n + tot ss n ≤ 1048576 := hr (by simpa using ‹(!r) = false›)
  clear hr
  go_wp2_with (go_at_call 14; refine (tooBig a n cap b off ss w H.out hr').mono ?_; rintro e w' ⟨r2, rfl, rfl, _⟩)
  · go_ret
    exact ⟨rfl, Below.refl _ _⟩
  obtain rfl : r2 = false := ‹_›
  obtain rfl : r = true := by simpa using ‹(!r) = false›
  go_wp2
  go_loop [3] (fun i => ∃ k : Nat, k ≤ n ∧ i = .int .i64 k ∧ Hid (∀ j, j < k → plain (ss.getD j ByteArray.empty).data.toList)) (fun i => n - (intOf i).toNat)
  case atStart => exact ⟨0, Nat.zero_le _, rfl, fun j hj => absurd hj (Nat.not_lt_zero _)⟩
  case round =>
    obtain ⟨k, hk, rfl, HP⟩ := hrel
    by_cases hlt : k < n
    · obtain rfl : a = some ⟨b, off, none⟩ := H.out.addr.resolve_left (by omega)
      have hc := H.out.cells k hlt
      have hsz := size_le_tot ss hlt
      generalize hs : ss.getD k ByteArray.empty = s at hc hsz
      have HS : Hid (ss.getD k ByteArray.empty = s) := hs
      clear hs
      go_wp2_with (go_at_call 15; refine (plainWord s w (by omega)).mono ?_; rintro e w' ⟨r3, rfl, rfl, hpl⟩)
      · go_ret
        exact ⟨rfl, Below.refl _ _⟩
      · have hpl' := hpl (by simpa using ‹(!r3) = false›)
        go_round
        case rel =>
          refine ⟨k + 1, by omega, by go_num, fun j hj => ?_⟩
          rcases Nat.lt_or_ge j k with h4 | h4
          · exact HP.out j h4
          · obtain rfl : j = k := by omega
            rw [HS.out]; exact hpl'
        case measure => simp [intOf]; omega
    · obtain rfl : k = n := by omega
      have HPA : Hid (∀ s ∈ ss, plain s.data.toList) := fun s hs => by
        obtain ⟨j, hj, rfl⟩ := List.getElem_of_mem hs
        have := HP.out j (by rw [← H.out.len]; exact hj)
        rw [List.getD_eq_getElem?_getD, List.getElem?_eq_getElem hj] at this
        exact this
      go_wp2_with (first
        | (go_at_call 16; refine (clone_any a k cap b off ss w H.out H0.out hr').mono ?_; rintro e w1 ⟨a1, c1, g, rfl, hI, h1, hb1⟩; have HI : Hid (IsStrs w1 a1 k g 0 ss) := hI; have H1 : Hid (a1 = none → k = 0 ∧ c1 = 0) := h1; clear hI h1)
        | (go_at_call 17; refine (zz_any a1 k c1 g 0 ss w1 HI.out H1.out hr').mono ?_; rintro e w2 ⟨J, rfl, hJ, hJs, hb2⟩; have HJ : Hid (J.data.toList = lk (bs ss)) := hJ; clear hJ)
        | (go_at_call 18; refine (parse J ss w2 HJ.out hJs (by rw [H.out.len]; omega) HPA.out).mono ?_; intro e w3 hP; obtain ⟨a3, c3, g3, rfl, hI3, hb3⟩ := parsed_as hP H.out.len; clear hP))
      have hI1 := HI.out.below (hb2.trans (hb3.mono hb2.size)) HI.out.lt
      have hb := hb1.trans ((hb2.trans (hb3.mono hb2.size)).mono hb1.size)
      have HG : Hid (IsStrs w3 a1 k g 0 ss ∧ IsStrs w3 a3 k g3 0 ss ∧ Below w.heap.size w w3) := ⟨hI1, hI3, hb⟩
      clear hI1 hI3 hb hb1 hb2 hb3
      go_loopw [7] (fun i wr => ∃ j : Nat, j ≤ k ∧ i = .int .i64 j ∧ Hid (IsStrs wr a1 k g 0 ss ∧ IsStrs wr a3 k g3 0 ss ∧ Below w.heap.size w wr)) (fun i _ => k - (intOf i).toNat)
      case atStart => exact ⟨0, Nat.zero_le _, rfl, HG⟩
      case round =>
        obtain ⟨j, hj, rfl, HR⟩ := hrel
        by_cases hlt2 : j < k
        · obtain rfl : a1 = some ⟨g, 0, none⟩ := HR.out.1.addr.resolve_left (by omega)
          obtain rfl : a3 = some ⟨g3, 0, none⟩ := HR.out.2.1.addr.resolve_left (by omega)
          have d1 := HR.out.1.cells j hlt2
          have d3 := HR.out.2.1.cells j hlt2
          rw [Nat.zero_add] at d1 d3
          have hjk : (j : Int) < (k : Int) := by omega
          generalize ss.getD j ByteArray.empty = s at d1 d3
          go_wp2
          go_quiet (fail)
          go_wp2
          go_roundw
          case rel => exact ⟨j + 1, by omega, by go_num, still_drewN HR.out _⟩
          case measure => simp [intOf]; omega
        · go_wp2
          go_ret
          exact ⟨rfl, HR.out.2.2⟩
end Go.Proofs.Qxb6002457a

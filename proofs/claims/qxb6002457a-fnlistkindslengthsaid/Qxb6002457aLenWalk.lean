/-
  FnListKindsLength (6): the walk: it returns true.
-/
import Derived.Test.Qxb6002457aZZ
import Derived.Test.Qxb6002457aBytes19
namespace Go.Proofs.Qxb6002457a
open Go.RowKit

/-! ### The plain law: how long the text is -/
theorem lens_take_last (xs : List (List UInt8)) (m : Nat) (h : xs.length = m + 1) : Lib.lens (xs.take m) + (xs.getD m []).length = Lib.lens xs := by
  have hg : xs[m]? = some (xs.getD m []) := by
    simp [List.getElem?_eq_getElem (show m < xs.length from by omega)]
  have := Lib.lens_take_succ xs m _ hg
  rw [List.take_of_length_le (by omega)] at this
  exact this.symm

theorem join_len_pos (xs : List (List UInt8)) (sep : List UInt8) (h : 1 ≤ xs.length) : (Lib.join xs sep).length = sep.length * (xs.length - 1) + Lib.lens xs := by
  cases xs with
  | nil => simp at h
  | cons x r => rw [Lib.join_length]; simp

theorem lk_len_small (xs : List (List UInt8)) (h : xs.length < 2) : (lk xs).length = Lib.lens xs := by
  unfold lk
  rw [if_pos h]
  match xs, h with
  | [], _ => rfl
  | [x], _ => rw [Lib.join_one]; simp [Lib.lens]

theorem lk_len_big (xs : List (List UInt8)) (m : Nat) (h : xs.length = m + 1) (hm : 1 ≤ m) : (lk xs).length = Lib.lens xs + (2 * (m - 1) + 4) := by
  unfold lk
  rw [if_neg (by omega), h, Nat.add_sub_cancel]
  have h1 := lens_take_last xs m h
  have hl : (xs.take m).length = m := by rw [List.length_take]; omega
  have h2 := join_len_pos (xs.take m) [44, 32] (by omega)
  rw [hl] at h2
  simp only [List.length_append, List.length_cons, List.length_nil] at h2 ⊢
  omega

theorem len_small (ss : List ByteArray) (k : Nat) (J : ByteArray) (hS : ss.length = k) (h2 : k < 2) (hJ : J.data.toList = lk (bs ss)) : (J.size : Int) = (tot ss k : Int) := by
  subst hS
  have h1 := lk_len_small (bs ss) (by rw [bs_len]; exact h2)
  rw [← hJ, Array.length_toList] at h1
  rw [tot_all]
  exact congrArg Int.ofNat h1

theorem len_big (ss : List ByteArray) (k : Nat) (J : ByteArray) (hS : ss.length = k) (h2 : 2 ≤ k) (hJ : J.data.toList = lk (bs ss)) : (J.size : Int) = (tot ss k : Int) + (2 * ((k : Int) - 2) + 4) := by
  subst hS
  have h1 := lk_len_big (bs ss) (ss.length - 1) (by rw [bs_len]; omega) (by omega)
  rw [← hJ, Array.length_toList] at h1
  rw [tot_all]
  have h3 : J.size = J.data.size := rfl
  omega

theorem beq_of {x y : Int} (h : x = y) : (x == y) = true := by simp [h]
theorem ret_true {r : Bool} (h : r = true) : Ending.returned (.bool r) = .returned (.bool true) := by rw [h]

/-- The law is met: true, and nothing old has turned. -/
def Yes (w : World) (e : Ending) (w' : World) : Prop := e = .returned (.bool true) ∧ Below w.heap.size w w'

set_option maxHeartbeats 800000 in
theorem len_walk (a : Option Addr) (n cap b off : Nat) (ss : List ByteArray) (w : World) (h : IsStrs w a n b off ss) (h0 : a = none → n = 0 ∧ cap = 0) (hn : n ≤ maxLen) :
    Calls Try.prog 6 #[.slice a n cap] w (Yes w) := by
  have H0 : Hid (a = none → n = 0 ∧ cap = 0) := h0
  have H : Hid (IsStrs w a n b off ss) := h
  clear h h0
  go_enter Try.func6, Try.ntmps6
  go_wp2_with (go_at_call 19; refine (bytes19 a n cap b off ss w H.out hn).mono ?_; rintro e w' ⟨r, rfl, rfl, hr⟩)
  · go_ret
    exact ⟨rfl, Below.refl _ _⟩
  have hr' : n + tot ss n ≤ 1048576 := hr (by simpa using ‹(!r) = false›)
  clear hr
  go_wp2_with (go_at_call 14; refine (tooBig a n cap b off ss w H.out hr').mono ?_; rintro e w' ⟨r2, rfl, rfl, _⟩)
  · go_ret
    exact ⟨rfl, Below.refl _ _⟩
  go_wp2_with (go_at_call 16; refine (clone_any a n cap b off ss w H.out H0.out hr').mono ?_; rintro e w1 ⟨a1, c1, g, rfl, hI, h1, hb1⟩)
  have hA : Hid (n = 0 ∨ a1 = some ⟨g, 0, none⟩) := hI.addr
  have hcells := hI.cells
  have HI : Hid (IsStrs w1 a1 n g 0 ss) := hI
  have H1 : Hid (a1 = none → n = 0 ∧ c1 = 0) := h1
  clear hI h1 H H0
  go_wp2
  go_loop [3, 4] (fun z i => ∃ k : Nat, k ≤ n ∧ i = .int .i64 k ∧ z = .int .i64 (tot ss k : Int)) (fun _ i => n - (intOf i).toNat)
  case atStart => exact ⟨0, Nat.zero_le _, rfl, by simp [tot]⟩
  case round =>
    obtain ⟨k, hk, rfl, rfl⟩ := hrel
    have htk := tot_mono ss hk
    by_cases hlt : k < n
    · obtain rfl : a1 = some ⟨g, 0, none⟩ := hA.out.resolve_left (by omega)
      have hc := hcells k hlt
      have hsz := size_le_tot ss hlt
      have ht : tot ss (k + 1) = tot ss k + (ss.getD k ByteArray.empty).size := rfl
      generalize ss.getD k ByteArray.empty = s at hc ht hsz
      have HT : Hid (tot ss (k + 1) = tot ss k + s.size) := ht
      rw [Nat.zero_add] at hc
      clear ht hcells
      go_wp2
      go_round
      case rel => exact ⟨k + 1, by omega, by go_num, by rw [HT.out]; go_num⟩
      case measure => simp [intOf]; omega
    · obtain rfl : k = n := by omega
      clear hcells
      by_cases h2 : k < 2
      · go_wp2_with (go_at_call 17; refine (zz_any a1 k c1 g 0 ss w1 HI.out H1.out hr').mono ?_; rintro e w2 ⟨J, rfl, hJ, hJs, hb2⟩)
        go_ret
        refine ⟨?_, hb1.trans (hb2.mono hb1.size)⟩
        exact ret_true (beq_of (len_small ss k J HI.out.len h2 hJ))
      · go_wp2_with (go_at_call 17; refine (zz_any a1 k c1 g 0 ss w1 HI.out H1.out hr').mono ?_; rintro e w2 ⟨J, rfl, hJ, hJs, hb2⟩)
        go_ret
        refine ⟨?_, hb1.trans (hb2.mono hb1.size)⟩
        exact ret_true (beq_of (len_big ss k J HI.out.len (by omega) hJ))
end Go.Proofs.Qxb6002457a

/-
  FnListKindsEnds (7): the walk: it returns true.
-/
import Derived.Test.Qxb6002457aZZ
import Derived.Test.Qxb6002457aBytes20
namespace Go.Proofs.Qxb6002457a
open Go.RowKit

theorem pre_of (J s : ByteArray) (B : List UInt8) (h : J.data.toList = s.data.toList ++ B) : s.size ≤ J.size ∧ J.extract 0 s.size = s := by
  have hl := congrArg List.length h
  rw [List.length_append, ← Lib.size_eq, ← Lib.size_eq] at hl
  refine ⟨by omega, ?_⟩
  rw [Lib.extract_eq, h, Nat.sub_zero, List.drop_zero, Lib.size_eq s, List.take_left, Lib.mk_data]

theorem suf_of (J s : ByteArray) (A : List UInt8) (h : J.data.toList = A ++ s.data.toList) : s.size ≤ J.size ∧ J.extract (J.size - s.size) J.size = s := by
  have hl := congrArg List.length h
  rw [List.length_append, ← Lib.size_eq, ← Lib.size_eq] at hl
  refine ⟨by omega, ?_⟩
  have e1 : J.size - s.size = A.length := by omega
  have e2 : J.size - A.length = s.size := by omega
  rw [e1, Lib.extract_eq, h, List.drop_left, e2, Lib.size_eq s, List.take_length, Lib.mk_data]

theorem bs_get (ss : List ByteArray) (i : Nat) (h : i < ss.length) : (bs ss).getD i [] = (ss.getD i ByteArray.empty).data.toList := by
  simp [bs, List.getElem?_eq_getElem h]

theorem lk_first (xs : List (List UInt8)) (h : 2 ≤ xs.length) : ∃ B, lk xs = xs.getD 0 [] ++ B := by
  unfold lk
  rw [if_neg (by omega)]
  match xs, h with
  | x :: y :: r, _ =>
    refine ⟨Lib.joinTail [44, 32] ((y :: r).take r.length) ++ [32, 111, 114, 32] ++ (x :: y :: r).getD (r.length + 1) [], ?_⟩
    show Lib.join (x :: (y :: r).take r.length) [44, 32] ++ [32, 111, 114, 32] ++ (x :: y :: r).getD (r.length + 1) [] = x ++ _
    rw [Lib.join_cons]
    simp only [List.append_assoc]

theorem ends_two (ss : List ByteArray) (m : Nat) (J s0 sm : ByteArray) (hS : ss.length = m + 1) (hm : 1 ≤ m) (e0 : ss.getD 0 ByteArray.empty = s0) (em : ss.getD m ByteArray.empty = sm) (hJ : J.data.toList = lk (bs ss)) :
    s0.size ≤ J.size ∧ 4 + sm.size ≤ J.size ∧ J.extract 0 s0.size = s0 ∧ J.extract (J.size - (4 + sm.size)) J.size = ⟨#[32, 111, 114, 32]⟩ ++ sm := by
  subst e0
  subst em
  obtain ⟨B, hB⟩ := lk_first (bs ss) (by rw [bs_len]; omega)
  rw [bs_get ss 0 (by omega), ← hJ] at hB
  obtain ⟨a1, a2⟩ := pre_of J _ B hB
  have hT : J.data.toList = Lib.join ((bs ss).take m) [44, 32] ++ (⟨#[32, 111, 114, 32]⟩ ++ ss.getD m ByteArray.empty : ByteArray).data.toList := by
    rw [hJ, lk, if_neg (by rw [bs_len]; omega), bs_len, hS, Nat.add_sub_cancel, bs_get ss m (by omega)]
    simp
  obtain ⟨b1, b2⟩ := suf_of J _ _ hT
  have h4 : (⟨#[32, 111, 114, 32]⟩ ++ ss.getD m ByteArray.empty : ByteArray).size = 4 + (ss.getD m ByteArray.empty).size := by
    rw [ByteArray.size_append]; rfl
  rw [h4] at b1 b2
  exact ⟨a1, b1, a2, b2⟩

theorem ends_none (ss : List ByteArray) (J : ByteArray) (hS : ss.length = 0) (hJ : J.data.toList = lk (bs ss)) : J.toList.isEmpty = true := by
  obtain rfl : ss = [] := List.length_eq_zero_iff.1 hS
  rw [Lib.toList_data, hJ]
  rfl

theorem ends_one (ss : List ByteArray) (J : ByteArray) (hS : ss.length = 1) (hJ : J.data.toList = lk (bs ss)) : (J.toList == (ss[0]?.getD ByteArray.empty).toList) = true := by
  match ss, hS with
  | [x], _ =>
    rw [Lib.toList_data, hJ]
    show (lk [x.data.toList] == x.toList) = true
    rw [lk, if_pos (show [x.data.toList].length < 2 from Nat.lt_succ_self 1), Lib.join_one, Lib.toList_data]
    simp

theorem ret_trueE {r : Bool} (h : r = true) : Ending.returned (.bool r) = .returned (.bool true) := by rw [h]

/-- The law is met: true, and nothing old has turned. -/
def YesE (w : World) (e : Ending) (w' : World) : Prop := e = .returned (.bool true) ∧ Below w.heap.size w w'

set_option maxHeartbeats 800000 in
theorem ends_walk (a : Option Addr) (n cap b off : Nat) (ss : List ByteArray) (w : World) (h : IsStrs w a n b off ss) (h0 : a = none → n = 0 ∧ cap = 0) (hn : n ≤ maxLen) :
    Calls Try.prog 7 #[.slice a n cap] w (YesE w) := by
  have H0 : Hid (a = none → n = 0 ∧ cap = 0) := h0
  have H : Hid (IsStrs w a n b off ss) := h
  clear h h0
  go_enter Try.func7, Try.ntmps7
  go_wp2_with (go_at_call 20; refine (bytes20 a n cap b off ss w H.out hn).mono ?_; rintro e w' ⟨r, rfl, rfl, hr⟩)
  · go_ret
    exact ⟨rfl, Below.refl _ _⟩
  have hr' : n + tot ss n ≤ 1048576 := hr (by simpa using ‹(!r) = false›)
  clear hr
  go_wp2_with (go_at_call 14; refine (tooBig a n cap b off ss w H.out hr').mono ?_; rintro e w' ⟨r2, rfl, rfl, _⟩)
  · go_ret
    exact ⟨rfl, Below.refl _ _⟩
  go_wp2_with (go_at_call 16; refine (clone_any a n cap b off ss w H.out H0.out hr').mono ?_; rintro e w1 ⟨a1, c1, g, rfl, hI, h1, hb1⟩)
  have hA : Hid (n = 0 ∨ a1 = some ⟨g, 0, none⟩) := hI.addr
  have hG : Hid (n = 0 ∨ g < w1.heap.size) := hI.lt
  have hC : Hid (∀ i, i < n → w1.cell? ⟨g, i, none⟩ = some (.string (ss.getD i ByteArray.empty))) := fun i hi => by have := hI.cells i hi; rwa [Nat.zero_add] at this
  have HI : Hid (IsStrs w1 a1 n g 0 ss) := hI
  have H1 : Hid (a1 = none → n = 0 ∧ c1 = 0) := h1
  clear hI h1 H H0
  rcases (show n = 0 ∨ n = 1 ∨ 2 ≤ n from by omega) with hn0 | hn1 | hn2
  · subst hn0
    go_wp2_with (go_at_call 17; refine (zz_any a1 0 c1 g 0 ss w1 HI.out H1.out hr').mono ?_; rintro e w2 ⟨J, rfl, hJ, hJs, hb2⟩)
    go_ret
    refine ⟨?_, hb1.trans (hb2.mono hb1.size)⟩
    exact ret_trueE (ends_none ss J HI.out.len hJ)
  · subst hn1
    obtain rfl : a1 = some ⟨g, 0, none⟩ := hA.out.resolve_left (by omega)
    go_wp2_with (go_at_call 17; refine (zz_any _ 1 c1 g 0 ss w1 HI.out H1.out hr').mono ?_; rintro e w2 ⟨J, rfl, hJ, hJs, hb2⟩; have hc : w2.cell? ⟨g, 0, none⟩ = some (.string (ss.getD 0 ByteArray.empty)) := (hb2.cell (p := ⟨g, 0, none⟩) (hG.out.resolve_left (by omega))).trans (hC.out 0 (by omega)))
    go_ret
    refine ⟨?_, hb1.trans (hb2.mono hb1.size)⟩
    exact ret_trueE (ends_one ss J HI.out.len hJ)
  · obtain rfl : a1 = some ⟨g, 0, none⟩ := hA.out.resolve_left (by omega)
    obtain ⟨m, rfl⟩ : ∃ m, n = m + 1 := ⟨n - 1, by omega⟩
    have hm : 1 ≤ m := by omega
    have hg := hG.out.resolve_left (by omega)
    have hl := size_le_tot ss (show m < m + 1 from by omega)
    have hf := size_le_tot ss (show 0 < m + 1 from by omega)
    have hc0 := hC.out 0 (by omega)
    have hcm := hC.out m (by omega)
    generalize e0 : ss.getD 0 ByteArray.empty = s0 at hf hc0
    generalize em : ss.getD m ByteArray.empty = sm at hl hcm
    have E0 : Hid (ss.getD 0 ByteArray.empty = s0) := e0
    have EM : Hid (ss.getD m ByteArray.empty = sm) := em
    clear e0 em
    go_wp2_with (go_at_call 17; refine (zz_any _ (m + 1) c1 g 0 ss w1 HI.out H1.out hr').mono ?_; rintro e w2 ⟨J, rfl, hJ, hJs, hb2⟩; have hc0' := (hb2.cell (p := ⟨g, 0, none⟩) hg).trans hc0; have hcm' := (hb2.cell (p := ⟨g, m, none⟩) hg).trans hcm; have HJ : Hid (J.data.toList = lk (bs ss)) := hJ; clear hJ; obtain ⟨hs1, hs2, hx1, hx2⟩ := ends_two ss m J s0 sm HI.out.len hm E0.out EM.out HJ.out)
    go_ret
    exact ⟨rfl, hb1.trans (hb2.mono hb1.size)⟩
end Go.Proofs.Qxb6002457a

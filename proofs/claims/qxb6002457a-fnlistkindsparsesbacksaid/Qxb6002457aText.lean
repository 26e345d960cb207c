/-
  The text that listKinds writes, word by word from the left ('txt'), and where its bytes lie. No Go in sight.
-/
import Derived.Test.Qxb6002457aList
import Derived.Test.Qxb6002457aWord
namespace Go.Proofs.Qxb6002457a
open Go.RowKit

/-- A word; then, for each further one, ' or ' ahead of the last, ', ' ahead of the others. -/
def txt : List (List UInt8) → List UInt8
  | [] => []
  | x :: r => x ++ (if r.length = 0 then [] else if r.length = 1 then [32, 111, 114, 32] ++ txt r else [44, 32] ++ txt r)

theorem txt_one (x : List UInt8) : txt [x] = x := by simp [txt]
theorem txt_two (x y : List UInt8) : txt [x, y] = x ++ ([32, 111, 114, 32] ++ txt [y]) := by simp [txt]
theorem txt_more (x y z : List UInt8) (r : List (List UInt8)) : txt (x :: y :: z :: r) = x ++ ([44, 32] ++ txt (y :: z :: r)) := by
  rw [txt, if_neg (by simp), if_neg (by simp)]

theorem lk_more (x y z : List UInt8) (r : List (List UInt8)) : lk (x :: y :: z :: r) = x ++ ([44, 32] ++ lk (y :: z :: r)) := by
  unfold lk
  rw [if_neg (by simp), if_neg (by simp)]
  have e1 : (x :: y :: z :: r).take ((x :: y :: z :: r).length - 1) = x :: y :: (z :: r).take r.length := by simp
  have e2 : (y :: z :: r).take ((y :: z :: r).length - 1) = y :: (z :: r).take r.length := by simp
  have e3 : (x :: y :: z :: r).getD ((x :: y :: z :: r).length - 1) [] = (y :: z :: r).getD ((y :: z :: r).length - 1) [] := by simp
  rw [e1, e2, e3, Lib.join_cons, Lib.join_cons]
  simp [Lib.joinTail]

theorem lk_txt (xs : List (List UInt8)) : lk xs = txt xs := by
  match xs with
  | [] => rfl
  | [x] => rw [txt_one, lk, if_pos (by simp), Lib.join_one]
  | [x, y] =>
    rw [txt_two, txt_one]
    show Lib.join [x] [44, 32] ++ [32, 111, 114, 32] ++ y = _
    rw [Lib.join_one, List.append_assoc]
  | x :: y :: z :: r => rw [txt_more, lk_more, lk_txt (y :: z :: r)]

/-! ### Where the bytes lie -/
section
variable {J : ByteArray} {p : Nat} {x R : List UInt8}

theorem at_len (h : J.data.toList.drop p = x ++ R) (hp : p ≤ J.size) : p + x.length + R.length = J.size := by
  have hl := congrArg List.length h
  rw [List.length_drop, List.length_append, Array.length_toList] at hl
  have : J.size = J.data.size := rfl
  omega

theorem at_word (h : J.data.toList.drop p = x ++ R) (t : Nat) (ht : t < x.length) (hi : p + t < J.size) : J[p + t] ∈ x := by
  have e : J[p + t] = J.data.toList[p + t] := rfl
  have e2 : J.data.toList[p + t]? = some x[t] := by
    rw [← List.getElem?_drop, h, List.getElem?_append_left ht, List.getElem?_eq_getElem ht]
  rw [List.getElem?_eq_getElem (by simpa using hi), Option.some.injEq] at e2
  rw [e, e2]
  exact List.getElem_mem ht

theorem at_rest (h : J.data.toList.drop p = x ++ R) (t : Nat) (c : UInt8) (hc : R[t]? = some c) (hi : p + x.length + t < J.size) : J[p + x.length + t] = c := by
  have e : J[p + x.length + t] = J.data.toList[p + x.length + t] := rfl
  have e2 : J.data.toList[p + x.length + t]? = some c := by
    rw [Nat.add_assoc, ← List.getElem?_drop, h, List.getElem?_append_right (by omega), Nat.add_sub_cancel_left, hc]
  rw [List.getElem?_eq_getElem (by simpa using hi), Option.some.injEq] at e2
  rw [e, e2]

theorem word_is (s : ByteArray) (h : J.data.toList.drop p = s.data.toList ++ R) : J.extract p (p + s.size) = s := by
  rw [Lib.extract_eq, h, Nat.add_sub_cancel_left, Lib.size_eq s, List.take_left, Lib.mk_data]

theorem drop_more (A : List UInt8) (h : J.data.toList.drop p = x ++ (A ++ R)) : J.data.toList.drop (p + x.length + A.length) = R := by
  rw [← List.drop_drop, ← List.drop_drop, h, List.drop_left, List.drop_left]

theorem sub_is (A : List UInt8) (h : J.data.toList.drop p = x ++ (A ++ R)) : J.extract (p + x.length) (p + x.length + A.length) = ⟨A.toArray⟩ := by
  rw [Lib.extract_eq, ← List.drop_drop, h, List.drop_left, Nat.add_sub_cancel_left, List.take_left]
end

theorem bs_drop (ss : List ByteArray) (k : Nat) (h : k < ss.length) : (bs ss).drop k = (ss.getD k ByteArray.empty).data.toList :: (bs ss).drop (k + 1) := by
  rw [List.drop_eq_getElem_cons (by rw [bs_len]; exact h)]
  congr 1
  simp [bs, List.getElem?_eq_getElem h]

end Go.Proofs.Qxb6002457a

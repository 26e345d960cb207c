/-
  zzPlainWord (15): where it says 'true' the word is not empty and holds no comma and no blank.
-/
import Derived.Test.Qxb6002457aBase
namespace Go.Proofs.Qxb6002457a
open Go.RowKit

/-- Not empty; no comma, no blank. -/
def plain (x : List UInt8) : Prop := x ≠ [] ∧ ∀ c ∈ x, c ≠ 44 ∧ c ≠ 32

theorem plain_of (s : ByteArray) (h0 : s.size ≠ 0) (h : ∀ i (hi : i < s.size), (s[i].toNat : Int) ≠ 44 ∧ (s[i].toNat : Int) ≠ 32) : plain s.data.toList := by
  refine ⟨fun e => h0 ?_, fun c hc => ?_⟩
  · show s.data.size = 0
    rw [← Array.length_toList, e]; rfl
  · obtain ⟨i, hi, rfl⟩ := List.getElem_of_mem hc
    have hi' : i < s.size := by simpa using hi
    have := h i hi'
    have e : s[i] = s.data.toList[i] := rfl
    rw [e] at this
    refine ⟨fun h1 => this.1 (by rw [h1]; rfl), fun h1 => this.2 (by rw [h1]; rfl)⟩

set_option maxHeartbeats 400000 in
theorem plainWord (s : ByteArray) (w : World) (hs : s.size ≤ 1048576) :
    Calls Try.prog 15 #[.string s] w (RetBool w (plain s.data.toList)) := by
  by_cases h0 : s.size = 0
  · go_enter Try.func15, Try.ntmps15
    go_wp2
    go_ret
    exact ⟨false, rfl, rfl, fun h => by cases h⟩
  · go_enter Try.func15, Try.ntmps15
    go_wp2
    go_loop [3] (fun i => ∃ k : Nat, k ≤ s.size ∧ i = .int .i64 k ∧ Hid (∀ i (hi : i < s.size), i < k → (s[i].toNat : Int) ≠ 44 ∧ (s[i].toNat : Int) ≠ 32)) (fun i => s.size - (intOf i).toNat)
    case atStart => exact ⟨0, Nat.zero_le _, rfl, fun i hi h => absurd h (Nat.not_lt_zero _)⟩
    case round =>
      obtain ⟨k, hk, rfl, HP⟩ := hrel
      by_cases hlt : k < s.size
      · go_wp2
        · go_ret
          exact ⟨false, rfl, rfl, fun h => by cases h⟩
        · go_ret
          exact ⟨false, rfl, rfl, fun h => by cases h⟩
        · have h2 : ((s[k].toNat : Int) == 44) = false ∧ ((s[k].toNat : Int) == 32) = false := by assumption
          have h3 : (s[k].toNat : Int) ≠ 44 ∧ (s[k].toNat : Int) ≠ 32 := ⟨beq_eq_false_iff_ne.1 h2.1, beq_eq_false_iff_ne.1 h2.2⟩
          go_round
          case rel =>
            refine ⟨k + 1, by omega, by go_num, fun i hi h => ?_⟩
            rcases Nat.lt_or_ge i k with h4 | h4
            · exact HP.out i hi h4
            · obtain rfl : i = k := by omega
              exact h3
          case measure => simp [intOf]; omega
      · go_wp2
        go_ret
        exact ⟨true, rfl, rfl, fun _ => plain_of s h0 fun i hi => HP.out i hi (by omega)⟩
end Go.Proofs.Qxb6002457a

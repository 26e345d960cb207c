import Derived.Test.Qxb6002457aBase
namespace Go.Proofs.Qxb6002457a
open Go.RowKit

set_option maxHeartbeats 400000 in
theorem bytes13 (a : Option Addr) (n cap b off : Nat) (ss : List ByteArray) (w : World) (h : IsStrs w a n b off ss) (hn : n ≤ maxLen) :
    Calls Try.prog 13 #[.slice a n cap] w (RetBool w (n + tot ss n ≤ 1048576)) := by
  unfold maxLen at hn
  by_cases hbig : 1048576 < n
  · go_enter Try.func13, Try.ntmps13
    go_wp2
    go_ret
    exact ⟨false, rfl, rfl, fun h => by cases h⟩
  · have hA : Hid (n = 0 ∨ a = some ⟨b, off, none⟩) := h.addr
    have hcells := h.cells
    clear h
    go_enter Try.func13, Try.ntmps13
    go_wp2
    go_loop [3, 4] (fun z i => ∃ k : Nat, k ≤ n ∧ i = .int .i64 k ∧ z = .int .i64 ((n + tot ss k : Nat) : Int) ∧ n + tot ss k ≤ 1048576) (fun _ i => n - (intOf i).toNat)
    case atStart => exact ⟨0, Nat.zero_le _, rfl, by simp [tot], by simp [tot]; omega⟩
    case round =>
      obtain ⟨k, hk, rfl, rfl, hz⟩ := hrel
      by_cases hlt : k < n
      · obtain rfl : a = some ⟨b, off, none⟩ := hA.out.resolve_left (by omega)
        have hc := hcells k hlt
        have ht : tot ss (k + 1) = tot ss k + (ss.getD k ByteArray.empty).size := rfl
        generalize ss.getD k ByteArray.empty = s at hc ht
        have HT : Hid (tot ss (k + 1) = tot ss k + s.size) := ht
        clear ht hcells
        go_wp2
        · go_ret
          exact ⟨false, rfl, rfl, fun h => by cases h⟩
        · go_ret
          exact ⟨false, rfl, rfl, fun h => by cases h⟩
        · go_round
          case rel => exact ⟨k + 1, by omega, by go_num, by rw [HT.out]; go_num, by rw [HT.out]; omega⟩
          case measure => simp [intOf]; omega
      · go_wp2
        go_ret
        exact ⟨true, rfl, rfl, fun _ => by rw [show n = k from by omega] at hz ⊢; exact hz⟩
end Go.Proofs.Qxb6002457a

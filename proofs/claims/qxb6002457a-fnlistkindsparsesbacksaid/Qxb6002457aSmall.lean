/-
  zzTooBig (14): it answers, and turns nothing. zzCloneStrings (16): a fresh row with the same strings.
-/
import Derived.Test.Qxb6002457aBase
namespace Go.Proofs.Qxb6002457a
open Go.RowKit

set_option maxHeartbeats 400000 in
theorem tooBig (a : Option Addr) (n cap b off : Nat) (ss : List ByteArray) (w : World) (h : IsStrs w a n b off ss) (hn : n + tot ss n ≤ 1048576) :
    Calls Try.prog 14 #[.slice a n cap] w (RetBool w True) := by
  by_cases hbig : 65536 < n
  · go_enter Try.func14, Try.ntmps14
    go_wp2
    go_ret
    exact ⟨true, rfl, rfl, fun _ => trivial⟩
  · have hA : Hid (n = 0 ∨ a = some ⟨b, off, none⟩) := h.addr
    have hcells := h.cells
    clear h
    go_enter Try.func14, Try.ntmps14
    go_wp2
    go_loop [3, 4] (fun z i => ∃ (k : Nat) (m : Int), k ≤ n ∧ i = .int .i64 k ∧ z = .int .i64 m ∧ 0 ≤ m ∧ m ≤ 1048576) (fun _ i => n - (intOf i).toNat)
    case atStart => exact ⟨0, 0, Nat.zero_le _, rfl, rfl, by omega, by omega⟩
    case round =>
      obtain ⟨k, m, hk, rfl, rfl, hz0, hz⟩ := hrel
      by_cases hlt : k < n
      · obtain rfl : a = some ⟨b, off, none⟩ := hA.out.resolve_left (by omega)
        have hc := hcells k hlt
        have ht := size_le_tot ss hlt
        generalize ss.getD k ByteArray.empty = s at hc ht
        have hs : s.size ≤ 1048576 := by omega
        clear ht hcells
        go_wp2
        · go_ret
          exact ⟨true, rfl, rfl, fun _ => trivial⟩
        · go_round
          case rel => exact ⟨k + 1, _, by omega, by go_num, rfl, by omega, by omega⟩
          case measure => simp [intOf]; omega
      · go_wp2
        go_ret
        exact ⟨false, rfl, rfl, fun _ => trivial⟩

theorem Try.info9 : (Try.prog.info? 9).map (fun i => (i.zero, i.size, i.bytes)) = some (some (.string ByteArray.empty), 1, 16) := by kernel_rfl

/-- The row of strings behind the first k stores. -/
def rowK (ss : List ByteArray) (n k : Nat) : List Value := (List.range n).map fun i => if i < k then .string (ss.getD i ByteArray.empty) else .string ByteArray.empty

theorem rowK_zero (ss : List ByteArray) (n : Nat) : rowK ss n 0 = List.replicate n (.string ByteArray.empty) := by
  unfold rowK
  apply List.ext_getElem
  · simp
  · intro i h1 h2
    simp

theorem rowK_len (ss : List ByteArray) (n k : Nat) : (rowK ss n k).length = n := by simp [rowK]

theorem rowK_set (ss : List ByteArray) (n k : Nat) : (rowK ss n k).set k (.string (ss.getD k ByteArray.empty)) = rowK ss n (k + 1) := by
  unfold rowK
  apply List.ext_getElem
  · simp
  · intro i h1 h2
    simp only [List.getElem_set, List.getElem_map, List.getElem_range]
    by_cases e : k = i
    · subst e; simp
    · rw [if_neg e]
      by_cases h : i < k
      · rw [if_pos h, if_pos (by omega)]
      · rw [if_neg h, if_neg (by omega)]

theorem rowK_get (ss : List ByteArray) (n i : Nat) (h : i < n) : (rowK ss n n)[i]? = some (.string (ss.getD i ByteArray.empty)) := by
  unfold rowK
  simp [h]

/-- What a fresh copy is: a row of the call's own, in new memory, the strings in it; nothing old has turned. -/
def Copied (w : World) (n : Nat) (ss : List ByteArray) (e : Ending) (w' : World) : Prop :=
  ∃ g, e = .returned (.slice (some ⟨g, 0, none⟩) n n) ∧ w.heap.size ≤ g ∧ g < w'.heap.size ∧ (∀ i, i < n → w'.cell? ⟨g, i, none⟩ = some (.string (ss.getD i ByteArray.empty))) ∧ Below w.heap.size w w'

set_option maxHeartbeats 400000 in
theorem clone_nil (w : World) : Calls Try.prog 16 #[.slice none 0 0] w fun e w' => e = .returned (.slice none 0 0) ∧ w' = w := by
  have q25 : ∀ (w : World) (a : Option Addr) (n c n' c' : Nat), (binOp .eql 25 (.slice a n c) (.slice none n' c')).run Try.prog w = .ok (.bool a.isNone) w := fun w a n c n' c' => Lib.run_eql_slice_nil w _ _ a n c n' c' Try.underlying25
  go_enter Try.func16, Try.ntmps16
  go_wp2
  go_ret
  exact ⟨rfl, rfl⟩

set_option maxHeartbeats 400000 in
theorem clone_some (x : Addr) (n cap b off : Nat) (ss : List ByteArray) (w : World) (h : IsStrs w (some x) n b off ss) (hn : n + tot ss n ≤ 1048576) :
    Calls Try.prog 16 #[.slice (some x) n cap] w (Copied w n ss) := by
  obtain ⟨i0, hi, hz0, hz1, hz2⟩ := info_parts Try.info9
  have hA : Hid (n = 0 ∨ some x = some (⟨b, off, none⟩ : Addr)) := h.addr
  have hL : Hid (n = 0 ∨ b < w.heap.size) := h.lt
  have hcells := h.cells
  clear h
  have q25 : ∀ (w : World) (a : Option Addr) (n c n' c' : Nat), (binOp .eql 25 (.slice a n c) (.slice none n' c')).run Try.prog w = .ok (.bool a.isNone) w := fun w a n c n' c' => Lib.run_eql_slice_nil w _ _ a n c n' c' Try.underlying25
  go_enter Try.func16, Try.ntmps16
  go_wp2_with (refine wpList_make_full _ rfl _ _ 25 rfl w.heap.size 9 i0 (.string ByteArray.empty) 1 Try.underlying25 hi hz0 hz1 .i64 .i64 _ _ n rfl rfl rfl rfl (by rw [hz2]; omega) (by unfold maxLen; omega) (Nat.le_refl _) ?_; intro w1 hown hgrow)
  go_wp2
  go_loopw [4] (fun i wr => ∃ k : Nat, k ≤ n ∧ i = .int .i64 k ∧ wr.ownsRow w.heap.size 9 1 (.slice (some ⟨w.heap.size, 0, none⟩) n n) n (rowK ss n k) ∧ Below w.heap.size w wr) (fun i _ => n - (intOf i).toNat)
  case atStart =>
    refine ⟨0, Nat.zero_le _, rfl, ?_, (Below.refl _ _).grown hgrow (Nat.le_refl _) (fun _ h => by cases h)⟩
    rw [rowK_zero, ← toList_madeCells_one]
    rw [Nat.mul_one] at hown
    exact hown
  case round =>
    clear hown hgrow
    obtain ⟨k, hk, rfl, hown, hbel⟩ := hrel
    by_cases hlt : k < n
    · obtain rfl : x = ⟨b, off, none⟩ := by simpa using hA.out.resolve_left (by omega)
      have hb : b < w.heap.size := hL.out.resolve_left (by omega)
      have hc : wr.cell? ⟨b, off + k, none⟩ = some (.string (ss.getD k ByteArray.empty)) := (hbel.cell (p := ⟨b, off + k, none⟩) hb).trans (hcells k hlt)
      have hd : wr.cell? ⟨w.heap.size, k, none⟩ = some (.string ByteArray.empty) := by
        rw [hown.cellAt k (by omega)]; simp [rowK, hlt]
      have hf : wr.frozen? ⟨w.heap.size, k, none⟩ = false := hown.frozenAt k
      have hset := rowK_set ss n k
      generalize ss.getD k ByteArray.empty = s at hc hset
      have R := hown.stored k (.string s)
      rw [hset] at R
      have R2 := hbel.setCell (p := ⟨w.heap.size, k, none⟩) (Nat.le_refl _) (.string s)
      have HR : Hid (_ ∧ _) := ⟨R.1, R2⟩
      clear R R2 hset hcells hown hbel
      go_wp2
      go_roundw
      case rel => exact ⟨k + 1, by omega, by go_num, HR.out.1, HR.out.2⟩
      case measure => simp [intOf]; omega
    · have hkn : k = n := by omega
      subst hkn
      clear hcells
      go_wp2
      go_ret
      refine ⟨w.heap.size, rfl, Nat.le_refl _, ?_, fun i hi => ?_, hbel⟩
      · rcases hown.2 with ⟨h, _⟩ | ⟨g, c, cur, h, _, hg, _⟩
        · cases h
        · simp only [Value.slice.injEq, Option.some.injEq, Addr.mk.injEq, and_true, true_and] at h
          obtain ⟨rfl, _⟩ := h
          exact lt_of_block hg
      · rw [hown.cellAt i (by omega)]
        exact rowK_get ss k i hi
end Go.Proofs.Qxb6002457a

/-
  batch.ZZlistKinds (17): what listKinds writes, of a copy as []Kind.
-/
import Derived.Test.Qxb6002457aList
namespace Go.Proofs.Qxb6002457a
open Go.RowKit

theorem Try.info32 : (Try.prog.info? 32).map (fun i => (i.zero, i.size, i.bytes)) = some (some (.string ByteArray.empty), 1, 16) := by kernel_rfl

set_option maxHeartbeats 400000 in
theorem zz_nil (w : World) : Calls Try.prog 17 #[.slice none 0 0] w (Wrote w []) := by
  have q25 : ∀ (w : World) (a : Option Addr) (n c n' c' : Nat), (binOp .neq 25 (.slice a n c) (.slice none n' c')).run Try.prog w = .ok (.bool (!a.isNone)) w := fun w a n c n' c' => run_neq_slice_nil_any w _ _ a n c n' c' Try.underlying25
  go_enter Try.func17, Try.ntmps17
  go_wp2_with (go_at_call 22; refine (listKinds none 0 0 0 0 [] w ⟨rfl, .inl rfl, .inl rfl, fun i hi => absurd hi (Nat.not_lt_zero _)⟩ (by simp [tot])).mono ?_; rintro e w1 ⟨J, rfl, hJ, hJs, hb⟩)
  go_ret
  exact ⟨J, rfl, hJ, hJs, hb⟩

set_option maxHeartbeats 800000 in
theorem zz_some (x : Addr) (n cap b off : Nat) (ss : List ByteArray) (w : World) (h : IsStrs w (some x) n b off ss) (hn : n + tot ss n ≤ 1048576) :
    Calls Try.prog 17 #[.slice (some x) n cap] w (Wrote w ss) := by
  obtain ⟨i0, hi, hz0, hz1, hz2⟩ := info_parts Try.info32
  have hA : Hid (n = 0 ∨ some x = some (⟨b, off, none⟩ : Addr)) := h.addr
  have hL : Hid (n = 0 ∨ b < w.heap.size) := h.lt
  have hS : Hid (ss.length = n) := h.len
  have hcells := h.cells
  clear h
  have q25 : ∀ (w : World) (a : Option Addr) (n c n' c' : Nat), (binOp .neq 25 (.slice a n c) (.slice none n' c')).run Try.prog w = .ok (.bool (!a.isNone)) w := fun w a n c n' c' => run_neq_slice_nil_any w _ _ a n c n' c' Try.underlying25
  go_enter Try.func17, Try.ntmps17
  go_wp2_with (refine wpList_make_full _ rfl _ _ 31 rfl w.heap.size 32 i0 (.string ByteArray.empty) 1 Try.underlying31 hi hz0 hz1 .i64 .i64 _ _ n rfl rfl rfl rfl (by rw [hz2]; omega) (by unfold maxLen; omega) (Nat.le_refl _) ?_; intro w1 hown hgrow)
  go_wp2
  go_loopw [4] (fun i wr => ∃ k : Nat, k ≤ n ∧ i = .int .i64 k ∧ wr.ownsRow w.heap.size 32 1 (.slice (some ⟨w.heap.size, 0, none⟩) n n) n (rowK ss n k) ∧ Below w.heap.size w wr) (fun i _ => n - (intOf i).toNat)
  case atStart =>
    refine ⟨0, Nat.zero_le _, rfl, ?_, (Below.refl _ _).grown hgrow (Nat.le_refl _) (fun _ h => by cases h)⟩
    rw [rowK_zero, ← toList_madeCells_one]
    rw [Nat.mul_one] at hown
    exact hown
  case round =>
    clear hown hgrow
    obtain ⟨k, hk, rfl, hown, hbel⟩ := hrel
    by_cases hlt : k < n
    · obtain rfl : x = ⟨b, off, none⟩ := by simpa using hA.out.resolve_left (by omega)
      have hb : b < w.heap.size := hL.out.resolve_left (by omega)
      have hc : wr.cell? ⟨b, off + k, none⟩ = some (.string (ss.getD k ByteArray.empty)) := (hbel.cell (p := ⟨b, off + k, none⟩) hb).trans (hcells k hlt)
      have hd : wr.cell? ⟨w.heap.size, k, none⟩ = some (.string ByteArray.empty) := by
        rw [hown.cellAt k (by omega)]; simp [rowK, hlt]
      have hf : wr.frozen? ⟨w.heap.size, k, none⟩ = false := hown.frozenAt k
      have hset := rowK_set ss n k
      generalize ss.getD k ByteArray.empty = s at hc hset
      have R := hown.stored k (.string s)
      rw [hset] at R
      have R2 := hbel.setCell (p := ⟨w.heap.size, k, none⟩) (Nat.le_refl _) (.string s)
      have HR : Hid (_ ∧ _) := ⟨R.1, R2⟩
      clear R R2 hset hcells hown hbel
      go_wp2
      go_roundw
      case rel => exact ⟨k + 1, by omega, by go_num, HR.out.1, HR.out.2⟩
      case measure => simp [intOf]; omega
    · have hkn : k = n := by omega
      subst hkn
      clear hcells
      have hg : w.heap.size < wr.heap.size := by
        rcases hown.2 with ⟨h, _⟩ | ⟨g, c, cur, h, _, hg, _⟩
        · cases h
        · simp only [Value.slice.injEq, Option.some.injEq, Addr.mk.injEq, and_true, true_and] at h
          obtain ⟨rfl, _⟩ := h
          exact lt_of_block hg
      have HC : Hid (∀ i, i < k → wr.cell? ⟨w.heap.size, i, none⟩ = some (.string (ss.getD i ByteArray.empty))) := fun i hi => by
        rw [hown.cellAt i (by omega)]
        exact rowK_get ss k i hi
      clear hown
      have hsz := hbel.size
      have HI : Hid (IsStrs wr (some ⟨w.heap.size, 0, none⟩) k w.heap.size 0 ss) := ⟨hS.out, .inr rfl, .inr hg, fun i hi => by rw [Nat.zero_add]; exact HC.out i hi⟩
      go_wp2_with (go_at_call 22; refine (listKinds (some ⟨w.heap.size, 0, none⟩) k k w.heap.size 0 ss wr HI.out hn).mono ?_; rintro e w2 ⟨J, rfl, hJ, hJs, hb⟩)
      go_ret
      exact ⟨J, rfl, hJ, hJs, hbel.trans (hb.mono hsz)⟩

/-- ZZlistKinds at whatever slice of strings, nil or not. -/
theorem zz_any (a : Option Addr) (n cap b off : Nat) (ss : List ByteArray) (w : World) (h : IsStrs w a n b off ss) (h0 : a = none → n = 0 ∧ cap = 0) (hn : n + tot ss n ≤ 1048576) :
    Calls Try.prog 17 #[.slice a n cap] w (Wrote w ss) := by
  cases a with
  | none =>
    obtain ⟨rfl, rfl⟩ := h0 rfl
    obtain rfl : ss = [] := List.length_eq_zero_iff.1 h.len
    exact zz_nil w
  | some x => exact zz_some x n cap b off ss w h hn

/-- A copy: the same strings, in new memory or nil; nothing old has turned. -/
def Cloned (w : World) (n : Nat) (ss : List ByteArray) (e : Ending) (w' : World) : Prop :=
  ∃ (a' : Option Addr) (c' g : Nat), e = .returned (.slice a' n c') ∧ IsStrs w' a' n g 0 ss ∧ (a' = none → n = 0 ∧ c' = 0) ∧ Below w.heap.size w w'

theorem clone_any (a : Option Addr) (n cap b off : Nat) (ss : List ByteArray) (w : World) (h : IsStrs w a n b off ss) (h0 : a = none → n = 0 ∧ cap = 0) (hn : n + tot ss n ≤ 1048576) :
    Calls Try.prog 16 #[.slice a n cap] w (Cloned w n ss) := by
  cases a with
  | none =>
    obtain ⟨rfl, rfl⟩ := h0 rfl
    refine (clone_nil w).mono ?_
    rintro e w' ⟨rfl, rfl⟩
    exact ⟨none, 0, 0, rfl, ⟨h.len, .inl rfl, .inl rfl, fun i hi => absurd hi (Nat.not_lt_zero _)⟩, fun _ => ⟨rfl, rfl⟩, Below.refl _ _⟩
  | some x =>
    refine (clone_some x n cap b off ss w h hn).mono ?_
    rintro e w' ⟨g, rfl, _, hg, hc, hb⟩
    exact ⟨some ⟨g, 0, none⟩, n, g, rfl, ⟨h.len, .inr rfl, .inr hg, fun i hi => by rw [Nat.zero_add]; exact hc i hi⟩, (fun h => by cases h), hb⟩
end Go.Proofs.Qxb6002457a

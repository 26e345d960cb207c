/-
  zzCopy (7): a fresh row with the same floats. zzBytes (6, 11): at most 2^20 elements.
-/
import Derived.Test.Qxb6600195aF18
import Derived.WalkSpells
namespace Go.Proofs
open Go.RowKit Go.Sort
attribute [local go_sem] run_store_float

/-- The call hands back a bool, turns nothing, and where it says 'true' p stands. -/
def RetBool (w : World) (p : Prop) (e : Ending) (w' : World) : Prop := ∃ r : Bool, e = .returned (.bool r) ∧ w = w' ∧ (r = true → p)

set_option maxHeartbeats 400000 in
theorem Try.bytes11 (a : Option Addr) (n cap : Nat) (w : World) (hn : n ≤ maxLen) : Calls Try.prog 11 #[.slice a n cap] w (RetBool w (n ≤ 1048576)) := by
  unfold maxLen at hn
  by_cases h : 1048576 < n
  · go_enter Try.func11, Try.ntmps11
    go_wp2
    go_ret
    exact ⟨false, rfl, rfl, fun h => by cases h⟩
  · go_enter Try.func11, Try.ntmps11
    go_wp2
    go_ret
    exact ⟨true, rfl, rfl, fun _ => by omega⟩

set_option maxHeartbeats 400000 in
theorem Try.bytes6 (a : Option Addr) (n cap : Nat) (w : World) (hn : n ≤ maxLen) : Calls Try.prog 6 #[.slice a n cap] w (RetBool w (n ≤ 1048576)) := by
  unfold maxLen at hn
  by_cases h : 1048576 < n
  · go_enter Try.func6, Try.ntmps6
    go_wp2
    go_ret
    exact ⟨false, rfl, rfl, fun h => by cases h⟩
  · go_enter Try.func6, Try.ntmps6
    go_wp2
    go_ret
    exact ⟨true, rfl, rfl, fun _ => by omega⟩

/-- The row of floats behind the first k stores. -/
def rowK (zs : List Nat) (n k : Nat) : List Value := (List.range n).map fun i => if i < k then .float .f64 (zs.getD i 0) else .float .f64 0

theorem rowK_zero (zs : List Nat) (n : Nat) : rowK zs n 0 = List.replicate n (.float .f64 0) := by
  unfold rowK
  apply List.ext_getElem
  · simp
  · intro i h1 h2
    simp

theorem rowK_set (zs : List Nat) (n k : Nat) : (rowK zs n k).set k (.float .f64 (zs.getD k 0)) = rowK zs n (k + 1) := by
  unfold rowK
  apply List.ext_getElem
  · simp
  · intro i h1 h2
    simp only [List.getElem_set, List.getElem_map, List.getElem_range]
    by_cases e : k = i
    · subst e; simp
    · rw [if_neg e]
      by_cases h : i < k
      · rw [if_pos h, if_pos (by omega)]
      · rw [if_neg h, if_neg (by omega)]

theorem rowK_get (zs : List Nat) (n i : Nat) (h : i < n) : (rowK zs n n)[i]? = some (.float .f64 (zs.getD i 0)) := by
  unfold rowK
  simp [h]

set_option maxHeartbeats 400000 in
theorem Try.copy_nil (w : World) : Calls Try.prog 7 #[.slice none 0 0] w fun e w' => e = .returned (.slice none 0 0) ∧ w' = w := by
  have q22 : ∀ (w : World) (a : Option Addr) (n c n' c' : Nat), (binOp .eql 22 (.slice a n c) (.slice none n' c')).run Try.prog w = .ok (.bool a.isNone) w := fun w a n c n' c' => Lib.run_eql_slice_nil w _ _ a n c n' c' Try.underlying22
  go_enter Try.func7, Try.ntmps7
  go_wp2
  go_ret
  exact ⟨rfl, rfl⟩

set_option maxHeartbeats 400000 in
theorem Try.copy_some (x : Addr) (n cap b off : Nat) (zs : List Nat) (w : World) (h : IsFl w (some x) n b off zs) (hn : n ≤ 1048576) :
    Calls Try.prog 7 #[.slice (some x) n cap] w (Fresh w n zs) := by
  obtain ⟨i0, hi, hz0, hz1, hz2⟩ := info_parts Try.info25
  have hA : Hid (n = 0 ∨ some x = some (⟨b, off, none⟩ : Addr)) := h.addr
  have hL : Hid (n = 0 ∨ b < w.heap.size) := h.lt
  have hN : Hid (zs.length = n) := h.len
  have hcells := h.cells
  clear h
  have q22 : ∀ (w : World) (a : Option Addr) (n c n' c' : Nat), (binOp .eql 22 (.slice a n c) (.slice none n' c')).run Try.prog w = .ok (.bool a.isNone) w := fun w a n c n' c' => Lib.run_eql_slice_nil w _ _ a n c n' c' Try.underlying22
  go_enter Try.func7, Try.ntmps7
  go_wp2_with (refine wpList_make_full _ rfl _ _ 22 rfl w.heap.size 25 i0 (.float .f64 0) 1 Try.underlying22 hi hz0 hz1 .i64 .i64 _ _ n rfl rfl rfl rfl (by rw [hz2]; omega) (by unfold maxLen; omega) (Nat.le_refl _) ?_; intro w1 hown hgrow)
  go_wp2
  go_loopw [4] (fun i wr => ∃ k : Nat, k ≤ n ∧ i = .int .i64 k ∧ wr.ownsRow w.heap.size 25 1 (.slice (some ⟨w.heap.size, 0, none⟩) n n) n (rowK zs n k) ∧ Go.RowKit.Below w.heap.size w wr) (fun i _ => n - (RowKit.intOf i).toNat)
  case atStart =>
    refine ⟨0, Nat.zero_le _, rfl, ?_, (Go.RowKit.Below.refl _ _).grown hgrow (Nat.le_refl _) (fun _ h => by cases h)⟩
    rw [rowK_zero, ← toList_madeCells_one]
    rw [Nat.mul_one] at hown
    exact hown
  case round =>
    clear hown hgrow
    obtain ⟨k, hk, rfl, hown, hbel⟩ := hrel
    by_cases hlt : k < n
    · obtain rfl : x = ⟨b, off, none⟩ := by simpa using hA.out.resolve_left (by omega)
      have hb : b < w.heap.size := hL.out.resolve_left (by omega)
      have hc : wr.cell? ⟨b, off + k, none⟩ = some (.float .f64 (zs.getD k 0)) := (hbel.cell (p := ⟨b, off + k, none⟩) hb).trans (hcells k hlt)
      have hd : wr.cell? ⟨w.heap.size, k, none⟩ = some (.float .f64 0) := by
        rw [hown.cellAt k (by omega)]; simp [rowK, hlt]
      have hf : wr.frozen? ⟨w.heap.size, k, none⟩ = false := hown.frozenAt k
      have hset := rowK_set zs n k
      generalize zs.getD k 0 = s at hc hset
      have R := hown.stored k (.float .f64 s)
      rw [hset] at R
      have R2 := hbel.setCell (p := ⟨w.heap.size, k, none⟩) (Nat.le_refl _) (.float .f64 s)
      have HR : Hid (_ ∧ _) := ⟨R.1, R2⟩
      clear R R2 hset hcells hown hbel
      go_wp2
      go_roundw
      case rel => exact ⟨k + 1, by omega, by go_num, HR.out.1, HR.out.2⟩
      case measure => simp [RowKit.intOf]; omega
    · have hkn : k = n := by omega
      subst hkn
      clear hcells
      go_wp2
      go_ret
      refine ⟨w.heap.size, k, rfl, ⟨hN.out, .inr rfl, .inr ?_, fun i hi => ?_⟩, hbel⟩
      · rcases hown.2 with ⟨h, _⟩ | ⟨g, c, cur, h, _, hg, _⟩
        · cases h
        · simp only [Value.slice.injEq, Option.some.injEq, Addr.mk.injEq, and_true, true_and] at h
          obtain ⟨rfl, _⟩ := h
          exact lt_of_block hg
      · rw [Nat.zero_add, hown.cellAt i (by omega)]
        exact rowK_get zs k i hi
end Go.Proofs

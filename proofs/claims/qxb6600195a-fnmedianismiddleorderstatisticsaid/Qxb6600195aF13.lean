/-
  The library sort at float64: Sort: the text of the library is walked. After the walk at another element type in the guide (Derived/Sort/WalkA14.lean), turned to this program: other numbers, another element, another cmp.Less.
-/
import Derived.Test.Qxb6600195aF0
import Derived.Test.Qxb6600195aShelf
import Derived.Sort.WalkA14
namespace Go.Proofs
open Go.RowKit Go.Sort
attribute [local go_sem] run_store_float

/-- WALK 13's CONTRACT, as the plan writes it, at float64. -/
def pdqWalk_f : Prop := ∀ (blk off cap a b limit : Nat) (d : Array Nat) (w : World), Holds encF w blk off d → blk < w.heap.size → a ≤ b → b ≤ d.size → d.size < 4611686018427387904 → limit < 4611686018427387904 → Below ltF a b d →
  Calls Try.prog 21 #[.slice (some ⟨blk, off, none⟩) d.size cap, .int .i64 a, .int .i64 b, .int .i64 limit] w fun e w' =>
    e = .returned (.tuple #[]) ∧ ∃ n os, w' = grow (putRow encF (Sort.ahead w n) blk off (Sort.pdq ltF d a b limit true true)) os
set_option maxRecDepth 100000 in
/-- WALK 14 OF THE PLAN, at float64: slices.Sort's own body. -/
theorem Try.Sort_f (hpdq : pdqWalk_f) (blk off cap : Nat) (d : Array Nat) (w : World) (hH : Holds encF w blk off d) (hblk : blk < w.heap.size) (hsz : d.size < 4611686018427387904) :
    Calls Try.prog 18 #[.slice (some ⟨blk, off, none⟩) d.size cap] w fun e w' => e = .returned (.tuple #[]) ∧ ∃ n os, w' = grow (putRow encF (Sort.ahead w n) blk off (Sort.sort ltF d)) os := by
  have HH : Hid (Holds encF w blk off d) := hH
  clear hH
  have hLen : ∀ w, Calls Try.prog 22 #[.int .u64 (d.size : Int)] w fun e w' => e = .returned (.int .i64 (bitsLen d.size : Nat)) ∧ w' = w := fun w => by
    have h := Try.bits_Len (d.size : Int) w (by omega) (by omega)
    rwa [Int.toNat_natCast, bitLen_eq _ (by omega)] at h
  have hk : bitsLen d.size ≤ 62 := (bitsLen_le_iff d.size 62).2 (by omega)
  go_enter Try.func18, Try.ntmps18
  go_wp2_with (first
    | (go_at_call 22; refine (hLen _).mono ?_; rintro e w' ⟨rfl, rfl⟩)
    | (go_at_call 21; refine (hpdq blk off cap 0 d.size (bitsLen d.size) d _ (by exact HH.out) (by exact hblk) (Nat.zero_le _) (Nat.le_refl _) hsz (by omega) (Or.inl rfl)).mono ?_; rintro e w' ⟨rfl, n, os, rfl⟩))
  go_end0
  exact ⟨rfl, n, os, rfl⟩
end Go.Proofs

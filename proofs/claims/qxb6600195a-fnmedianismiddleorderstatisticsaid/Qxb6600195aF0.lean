/-
  cmp.isNaN and cmp.Less at float64: the library's own text is walked. A float64 is its word of bits; 'ltF' is cmp.Less on words. (After the guide's Derived/Sort/Walk0.lean, at another element type.)
-/
import Derived.Test.Qxb6600195aProg
import Derived.Lib.Walk
import Derived.Sort.Row
import Derived.WalkKit
import Derived.WalkLawsBesides
namespace Go.Proofs
open Go.RowKit

/-- A float64 in a cell. -/
abbrev encF : Nat → Value := fun x => Value.float .f64 x

/-- A float stored: the law that the walk lacks. -/
theorem run_store_float {P : Program} {w : World} {a : Addr} {m : Mode} (k : FloatKind) (b : Nat) : (store a (.float k b) m).run P w = stored P w a (.float k b) m := run_store P w a _ m rfl

/-- 'x != x'. -/
def nanF (x : Nat) : Bool := Ieee.double.order x x != some .eq

/-- cmp.Less: a NaN before every number; numbers by value. -/
def ltF (x y : Nat) : Bool := (nanF x && !nanF y) || (Ieee.double.order x y == some .lt)

set_option maxHeartbeats 1000000 in
theorem Try.cmp_isNaN_f (x : Nat) (w : World) : Calls Try.prog 39 #[.float .f64 x] w fun e w' => e = .returned (.bool (nanF x)) ∧ w' = w := by
  go_enter Try.func39, Try.ntmps39
  go_wp2
  go_ret
  exact ⟨rfl, rfl⟩

theorem ltF_nn {x y : Nat} (h1 : nanF x = true) (h2 : nanF y = true) : ltF x y = (FloatKind.f64.format.order x y == some .lt) := by
  unfold ltF; rw [h1, h2]; rfl
theorem ltF_n {x y : Nat} (h1 : nanF x = true) (h2 : ¬ nanF y = true) : ltF x y = true := by
  unfold ltF; rw [h1, Bool.eq_false_iff.2 h2]; rfl
theorem ltF_o {x y : Nat} (h1 : ¬ nanF x = true) : ltF x y = (FloatKind.f64.format.order x y == some .lt) := by
  unfold ltF; rw [Bool.eq_false_iff.2 h1]; rfl

set_option maxHeartbeats 1000000 in
/-- cmp.Less[float64]: it returns 'ltF x y'; the world is as it was. -/
theorem Try.cmp_Less_f (x y : Nat) (w : World) : Calls Try.prog 29 #[.float .f64 x, .float .f64 y] w fun e w' => e = .returned (.bool (ltF x y)) ∧ w' = w := by
  go_enter Try.func29, Try.ntmps29
  go_wp2_with (go_at_call 39; refine (Try.cmp_isNaN_f _ _).mono ?_; rintro e w' ⟨rfl, rfl⟩)
  · go_ret
    exact ⟨congrArg (fun b => Ending.returned (.bool b)) (ltF_nn ‹_› ‹_›).symm, rfl⟩
  · go_ret
    exact ⟨congrArg (fun b => Ending.returned (.bool b)) (ltF_n ‹_› ‹_›).symm, rfl⟩
  · go_ret
    exact ⟨congrArg (fun b => Ending.returned (.bool b)) (ltF_o ‹_›).symm, rfl⟩
end Go.Proofs

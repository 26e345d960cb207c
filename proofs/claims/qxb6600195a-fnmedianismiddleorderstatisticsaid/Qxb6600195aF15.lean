/-
  The library sort at float64, put together: slices.Sort[[]float64] leaves 'Sort.sort ltF' of what was there: a permutation, ascending in cmp.Less. After Derived/Sort/Assembly in the guide.
-/
import Derived.Test.Qxb6600195aKey
import Derived.Test.Qxb6600195aF1
import Derived.Test.Qxb6600195aF2
import Derived.Test.Qxb6600195aF4
import Derived.Test.Qxb6600195aF6
import Derived.Test.Qxb6600195aF10
import Derived.Test.Qxb6600195aF11
import Derived.Test.Qxb6600195aF12
import Derived.Test.Qxb6600195aF13
import Derived.Sort.AssemblyPlain
namespace Go.Proofs
open Go.Sort Go.RowKit

theorem callees13F : Callees13F := {
  ins := Try.insertionSort_f
  brk := Try.breakPatterns_f
  piv := Try.choosePivot_f
  par := Try.partialInsertionSort_f
  peq := Try.partitionEqualOrdered_f
  prt := Try.partitionOrdered_f }

theorem plain13F : Plain13F := {
  swo := Qxb6600195a.swo_ltF
  ins := insertionSort_holds
  par := partialInsertionSort_holds
  prt := partition_holds _
  peq := partitionEqual_holds _
  pdq := pdq_sorts _ }

theorem pdqWalkF : pdqWalk_f := fun blk off cap a b limit d w hH hb hab hbd hsz hl hB =>
  Try.pdqsort_f callees13F plain13F (b - a + 1) blk off cap a b limit d w (by omega) hH hb hab hbd hsz hl hB

/-- slices.Sort at []float64. -/
theorem Try.slices_Sort_f (blk off cap : Nat) (d : Array Nat) (w : World) (hH : Holds encF w blk off d) (hblk : blk < w.heap.size) (hsz : d.size < 4611686018427387904) :
    Calls Try.prog 18 #[.slice (some ⟨blk, off, none⟩) d.size cap] w fun e w' => e = .returned (.tuple #[]) ∧ ∃ n os, w' = grow (putRow encF (Sort.ahead w n) blk off (Sort.sort ltF d)) os :=
  Try.Sort_f pdqWalkF blk off cap d w hH hblk hsz

/-- What the sort leaves: a permutation, ascending. -/
theorem sort_is (d : Array Nat) : PermIn 0 d.size d (Sort.sort ltF d) ∧ SortedIn ltF 0 d.size (Sort.sort ltF d) := sort_sorts ltF Qxb6600195a.swo_ltF d

end Go.Proofs

/-
  What the walks of this seat are told of a slice of strings, and plain facts on sums of lengths. No Go in sight but the word 'World'.
-/
import Derived.Test.Qxb6002457aProg
import Derived.WalkKit
import Derived.WalkSpells
import Derived.WalkLawsBesides
namespace Go.Proofs.Qxb6002457a
open Go.RowKit

/-- The slice value '.slice a n _' leads to the strings ss: n of them, cell by cell from ⟨b, off⟩ on (of an empty one nothing is asked of its address). -/
structure IsStrs (w : World) (a : Option Addr) (n b off : Nat) (ss : List ByteArray) : Prop where
  len : ss.length = n
  addr : n = 0 ∨ a = some ⟨b, off, none⟩
  lt : n = 0 ∨ b < w.heap.size
  cells : ∀ i, i < n → w.cell? ⟨b, off + i, none⟩ = some (.string (ss.getD i ByteArray.empty))

theorem IsStrs.below {w w' : World} {B : Nat} {a : Option Addr} {n b off : Nat} {ss : List ByteArray} (h : IsStrs w a n b off ss) (hb : Below B w w') (hB : n = 0 ∨ b < B) : IsStrs w' a n b off ss := by
  refine ⟨h.len, h.addr, ?_, fun i hi => ?_⟩
  · rcases h.lt with h0 | h0
    · exact .inl h0
    · exact .inr (Nat.lt_of_lt_of_le h0 hb.size)
  · rw [hb.cell (p := ⟨b, off + i, none⟩) (by rcases hB with h0 | h0; exact absurd hi (by omega); exact h0)]
    exact h.cells i hi

/-- The lengths of the first k strings together. -/
def tot (ss : List ByteArray) : Nat → Nat
  | 0 => 0
  | k + 1 => tot ss k + (ss.getD k ByteArray.empty).size

theorem tot_mono (ss : List ByteArray) {i k : Nat} (h : i ≤ k) : tot ss i ≤ tot ss k := by
  induction k with
  | zero => obtain rfl : i = 0 := by omega
            exact Nat.le_refl _
  | succ k ih =>
    rcases Nat.lt_or_ge i (k + 1) with h1 | h1
    · have := ih (by omega)
      show _ ≤ tot ss k + _
      omega
    · obtain rfl : i = k + 1 := by omega
      exact Nat.le_refl _

theorem size_le_tot (ss : List ByteArray) {i k : Nat} (h : i < k) : (ss.getD i ByteArray.empty).size ≤ tot ss k := by
  have h1 := tot_mono ss (show i + 1 ≤ k from h)
  have h2 : tot ss (i + 1) = tot ss i + (ss.getD i ByteArray.empty).size := rfl
  omega

/-- The call hands back a bool, turns nothing, and where it says 'true' p stands. -/
def RetBool (w : World) (p : Prop) (e : Ending) (w' : World) : Prop := ∃ r : Bool, e = .returned (.bool r) ∧ w = w' ∧ (r = true → p)

end Go.Proofs.Qxb6002457a

/-
  A slice of floats among the arguments, opened into what the walks are told ('IsFl').
-/
import Derived.Test.Qxb6600195aF16
import Derived.ProofKit
import Derived.ChangeSlices
namespace Go.Proofs
open Go.ChangeShapes Go.WideShapes Go.ChangeAt Go.RowKit

theorem trod_float {H : Type} {enc : TypeId × Value → H} {P : Program} {w : World} {base : Nat} {spare : Nat → Bool} {held : Bool} {fuel : Nat} {t : TypeId} {k : FloatKind} {cs : List Value} {x : DataW H × List MemPlace}
    (ht : P.underlying t = some (.float k)) (h : DataW.trod enc P w base spare held fuel t cs = some x) : ∃ b : Nat, cs = [.float k b] := by
  cases fuel with
  | zero => simp [DataW.trod] at h
  | succ n =>
    unfold DataW.trod at h
    rw [ht] at h
    split at h <;> simp_all

/-- The bits in a cell. -/
def bitsAt (w : World) (a : Addr) : Nat := match w.cell? a with | some (.float _ x) => x | _ => 0

theorem lt_of_cell {w : World} {b o : Nat} {v : Value} (h : w.cell? ⟨b, o, none⟩ = some v) : b < w.heap.size := by
  unfold World.cell? at h
  cases hh : w.heap[b]? with
  | none => simp [hh] at h
  | some o => exact (Array.getElem?_eq_some_iff.1 hh).1

theorem openedF {H : Type} {enc : TypeId × Value → H} {W : World} {a : Option Addr} {len cap : Nat} {d : DataW H} {p : List MemPlace}
    (h : DataW.Trod enc Try.prog W 0 (fun _ => true) true 22 (.slice a len cap) d p) :
    ∃ (b off : Nat) (zs : List Nat), IsFl W a len b off zs ∧ (a = none → len = 0 ∧ cap = 0) ∧ len ≤ maxLen := by
  obtain ⟨fuel, hf⟩ := h
  have hc25 : Try.prog.cellsOf 25 = 1 := by kernel_rfl
  rcases DataW.trod_slice Try.underlying22 hf with ⟨hcs, _⟩ | ⟨x, l, c, elems, rest, n, _, hcs, _, _, hl, hm, hlen, hel, _, _⟩
  · simp [Value.cells] at hcs
    obtain ⟨rfl, rfl, rfl⟩ := hcs
    exact ⟨0, 0, [], ⟨rfl, .inl rfl, .inl rfl, fun i hi => absurd hi (Nat.not_lt_zero _)⟩, fun _ => ⟨rfl, rfl⟩, Nat.zero_le _⟩
  · simp [Value.cells] at hcs
    obtain ⟨rfl, rfl, rfl⟩ := hcs
    rcases Nat.eq_zero_or_pos len with h0 | h0
    · subst h0
      exact ⟨0, 0, [], ⟨rfl, .inl rfl, .inl rfl, fun i hi => absurd hi (Nat.not_lt_zero _)⟩, (fun h => by cases h), Nat.zero_le _⟩
    · have each : ∀ i, i < len → ∃ z, W.cell? (x.add i) = some (.float .f64 z) := fun i hi => by
        have h1 := hel i hi
        rw [hc25, Nat.mul_one, List.getElem?_eq_getElem (by omega), Option.bind_eq_some_iff] at h1
        obtain ⟨cs', hcs', hy⟩ := h1
        obtain ⟨z, rfl⟩ := trod_float Try.underlying25 hy
        exact ⟨z, cell_of_cells?_one hcs'⟩
      obtain ⟨b, off, spot⟩ := x
      obtain ⟨z0, hz0⟩ := each 0 h0
      have hspot : spot = none := by simpa [Addr.add] using World.cell?_spot hz0
      subst hspot
      have each' : ∀ i, i < len → ∃ z, W.cell? ⟨b, off + i, none⟩ = some (.float .f64 z) := fun i hi => by
        obtain ⟨z, hz⟩ := each i hi
        rw [add_plain] at hz
        exact ⟨z, hz⟩
      refine ⟨b, off, (List.range len).map (fun i => bitsAt W ⟨b, off + i, none⟩), ⟨by simp, .inr rfl, .inr ?_, fun i hi => ?_⟩, (fun h => by cases h), by omega⟩
      · obtain ⟨z, hz⟩ := each' 0 h0
        exact lt_of_cell hz
      · obtain ⟨z, hz⟩ := each' i hi
        rw [hz]
        have : bitsAt W ⟨b, off + i, none⟩ = z := by unfold bitsAt; rw [hz]
        simp [hi, this]

end Go.Proofs

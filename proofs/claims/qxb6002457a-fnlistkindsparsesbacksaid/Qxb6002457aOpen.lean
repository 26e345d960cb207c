/-
  A slice of strings among the arguments, opened into what the walks are told ('IsStrs').
-/
import Derived.Test.Qxb6002457aBase
import Derived.SliceStrings
import Derived.ProofKit
namespace Go.Proofs.Qxb6002457a
open Go.ChangeShapes Go.WideShapes Go.ChangeAt Go.RowKit

theorem opened {H : Type} {enc : TypeId × Value → H} {W : World} {a : Option Addr} {len cap : Nat} {d : DataW H} {p : List MemPlace}
    (h : DataW.Trod enc Try.prog W 0 (fun _ => true) true 25 (.slice a len cap) d p) (lt : ∀ x ∈ p, x.block < W.heap.size) :
    ∃ (b off : Nat) (ss : List ByteArray), IsStrs W a len b off ss ∧ (a = none → len = 0 ∧ cap = 0) ∧ len ≤ maxLen := by
  obtain ⟨fuel, hf⟩ := h
  rcases open_strings Try.underlying25 Try.underlying9 (by kernel_rfl) hf with ⟨hcs, _⟩ | ⟨x, l, c, ss, hcs, _, hl, hm, hz, hx, hcell, hws⟩
  · simp [Value.cells] at hcs
    obtain ⟨rfl, rfl, rfl⟩ := hcs
    exact ⟨0, 0, [], ⟨rfl, .inl rfl, .inl rfl, fun i hi => absurd hi (Nat.not_lt_zero _)⟩, fun _ => ⟨rfl, rfl⟩, Nat.zero_le _⟩
  · simp [Value.cells] at hcs
    obtain ⟨rfl, rfl, rfl⟩ := hcs
    simp only [if_true] at hz
    have hp : p = MemPlace.row x ss.length := congrArg Prod.snd hx
    rcases Nat.eq_zero_or_pos len with h0 | h0
    · subst h0
      exact ⟨0, 0, [], ⟨rfl, .inl rfl, .inl rfl, fun i hi => absurd hi (Nat.not_lt_zero _)⟩, (fun h => by cases h), Nat.zero_le _⟩
    · obtain ⟨b, off, spot⟩ := x
      have hspot : spot = none := by simpa [Addr.add] using World.cell?_spot (hcell 0 (by omega))
      subst hspot
      have hb : b < W.heap.size := lt (.cell b off) (by rw [hp]; exact MemPlace.mem_row.2 ⟨0, by omega, rfl⟩)
      refine ⟨b, off, ss.take len, ⟨by rw [List.length_take]; omega, .inr rfl, .inr hb, fun i hi => ?_⟩, (fun h => by cases h), by omega⟩
      have hc := hcell i (by omega)
      rw [add_plain] at hc
      rw [hc]
      congr 2
      simp [hi]

end Go.Proofs.Qxb6002457a

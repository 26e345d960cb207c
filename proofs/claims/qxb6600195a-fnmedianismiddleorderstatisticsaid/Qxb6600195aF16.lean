/-
  slices.Values and its iterator, slices.Sorted at float64 (14, 19, 13): a fresh slice that holds what the argument holds, sorted.
-/
import Derived.Test.Qxb6600195aF14
import Derived.Test.Qxb6600195aF15
namespace Go.Proofs
open Go.RowKit Go.Shelf Go.Sort
attribute [local go_sem] run_store_float
attribute [local go_sem] Oper.semAt_some

/-- The slice value '.slice a n _' leads to the floats zs (words of bits): n of them, cell by cell from ⟨b, off⟩ on. -/
structure IsFl (w : World) (a : Option Addr) (n b off : Nat) (zs : List Nat) : Prop where
  len : zs.length = n
  addr : n = 0 ∨ a = some ⟨b, off, none⟩
  lt : n = 0 ∨ b < w.heap.size
  cells : ∀ i, i < n → w.cell? ⟨b, off + i, none⟩ = some (.float .f64 (zs.getD i 0))

theorem IsFl.below {w w' : World} {B : Nat} {a : Option Addr} {n b off : Nat} {zs : List Nat} (h : IsFl w a n b off zs) (hb : Go.RowKit.Below B w w') (hB : n = 0 ∨ b < B) : IsFl w' a n b off zs := by
  refine ⟨h.len, h.addr, ?_, fun i hi => ?_⟩
  · rcases h.lt with h0 | h0
    · exact .inl h0
    · exact .inr (Nat.lt_of_lt_of_le h0 hb.size)
  · rw [hb.cell (p := ⟨b, off + i, none⟩) (by rcases hB with h0 | h0; exact absurd hi (by omega); exact h0)]
    exact h.cells i hi

theorem take_snocF (zs : List Nat) (k : Nat) (h : k < zs.length) : zs.take k ++ [zs.getD k 0] = zs.take (k + 1) := by
  rw [List.take_succ_eq_append_getElem h]
  simp [List.getElem?_eq_getElem h]

set_option maxRecDepth 100000 in
set_option maxHeartbeats 2000000 in
/-- The iterator of slices.Values: 'for _, v := range s { if !yield(v) { return } }', where the rounds keep what was there and go on. -/
theorem Try.values_gives (F : Fence) (n : Nat) (h19 : F.fn 19) (hro : F.round = none) (hn : 1 ≤ n) (Bs len cap b off : Nat) (zs : List Nat) (w : World) (hBs : Bs < w.heap.size)
    (hc : w.cell? ⟨Bs, 0, none⟩ = some (.slice (some ⟨b, off, none⟩) len cap)) (hI : IsFl w (some ⟨b, off, none⟩) len b off zs) (hb : b < w.heap.size) (hlen : len ≤ 1048576) :
    SeqGivesF F n Try.prog 19 #[.pointer (some ⟨Bs, 0, none⟩)] encF (fun ys => ys = zs) zs.length w := fun l J W hW hJb hY h0 => by
  have hcB := (hW.cell (p := ⟨Bs, 0, none⟩) hBs).trans hc
  have hZ := hI.len
  have hcells := hI.cells
  clear hI hc
  show CallsIn F n Try.prog 19 #[.func (.yield l) #[] #[], .pointer (some ⟨Bs, 0, none⟩)] W _
  refine callsIn_of_wp Try.func19 rfl h19 ?_ hro
  simp only [Try.ntmps19, List.size_toArray, List.length_cons, List.length_nil, Nat.reduceAdd, Nat.reduceSub, Array.replicate_succ, Array.replicate_zero, List.push_toArray, List.append_toArray, List.nil_append, List.cons_append]
  gi_wp2
  gi_loopw [7] (fun i wr => ∃ k : Nat, k ≤ len ∧ i = .int .i64 k ∧ J (zs.take k) wr) (fun i _ => len - (intOf i).toNat)
  case atStart => exact ⟨0, Nat.zero_le _, rfl, by rw [List.take_zero]; exact h0⟩
  case round =>
    obtain ⟨k, hk, rfl, hJs⟩ := hrel
    by_cases hlt : k < len
    · have hcx : wr.cell? ⟨b, off + k, none⟩ = some (.float .f64 (zs.getD k 0)) := ((hJb _ _ hJs).cell (p := ⟨b, off + k, none⟩) hb).trans (hcells k hlt)
      have hsn := take_snocF zs k (by omega)
      generalize zs.getD k 0 = z at hcx hsn
      obtain ⟨fn, tmps, assign, body, hy, hR⟩ := hY _ z wr hJs (by rw [List.length_take]; omega)
      have HS : Hid (zs.take k ++ [z] = zs.take (k + 1)) := hsn
      clear hsn hcells
      gi_wp2
      refine hR.mono ?_
      rintro e W3 ⟨rfl, hJ3, hk3⟩
      gi_wp2
      go_roundw
      case rel => exact ⟨k + 1, by omega, by simp, by rw [← HS.out]; exact hJ3⟩
      case measure => simp [intOf]; omega
    · obtain rfl : k = len := by omega
      clear hcells
      gi_wp2
      go_end0
      exact ⟨⟨_, rfl⟩, zs, rfl, by rw [List.take_of_length_le (by omega)] at hJs; exact hJs⟩

set_option maxHeartbeats 1000000 in
/-- slices.Values(s): the slice value is boxed; the function value captures the box. -/
theorem Try.values_call (F : Fence) (n : Nat) (h14 : F.fn 14) (hro : F.round = none) (a : Option Addr) (len cap : Nat) (w : World) :
    CallsIn F n Try.prog 14 #[.slice a len cap] w fun e w' => e = .returned (.func (.func 19) #[] #[.pointer (some ⟨w.heap.size, 0, none⟩)]) ∧ w' = w.alloc (.cells #[.slice a len cap] 22) := by
  refine callsIn_of_wp Try.func14 rfl h14 ?_ hro
  simp only [Try.ntmps14, List.size_toArray, List.length_cons, List.length_nil, Nat.reduceAdd, Nat.reduceSub, Array.replicate_succ, Array.replicate_zero, List.push_toArray, List.append_toArray, List.nil_append, List.cons_append]
  gi_wp2
  go_ret
  exact ⟨rfl, rfl⟩

end Go.Proofs

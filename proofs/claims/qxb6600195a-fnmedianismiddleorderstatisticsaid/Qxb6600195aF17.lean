/-
  slices.Sorted (13) at the iterator of slices.Values: a fresh slice that holds what the argument holds, sorted.
-/
import Derived.Test.Qxb6600195aF16
import Derived.Sort.Grow
namespace Go.Proofs
open Go.RowKit Go.Shelf Go.Sort

theorem holds_of_blockF {w : World} {g : Nat} {cur : Array Value} {e : TypeId} {ss : List Nat} (hb : w.heap[g]? = some (.cells cur e (0, 0))) (ht : cur.toList.take ss.length = ss.map encF) : Holds encF w g 0 ss.toArray := by
  intro j hj
  have hj' : j < ss.length := by simpa using hj
  refine ⟨?_, by simp [World.frozen?, hb]⟩
  have h1 : (cur.toList.take ss.length)[j]? = (ss.map encF)[j]? := by rw [ht]
  rw [List.getElem?_take_of_lt hj'] at h1
  simp only [World.cell?, hb, Nat.zero_add]
  simp only [Option.isSome_none, Bool.false_eq_true, if_false]
  rw [← Array.getElem?_toList, h1]
  simp [hj']

theorem grownBy_sortedF {w : World} {g n : Nat} {os : Array Obj} (d : Array Nat) : w.grownBy (grow (putRow encF (Sort.ahead w n) g 0 d) os) (some g) := by
  refine ⟨rfl, rfl, rfl, by simp, fun k hk hne => ?_⟩
  rw [heap_grow_old _ _ (by simpa using hk)]
  have : g ≠ k := fun e => hne (by rw [e])
  simp [putRow, mapBlock, Sort.ahead, Array.getElem?_modify, this]

/-- What the sort leaves, as a list. -/
def sortL (zs : List Nat) : List Nat := (Sort.sort ltF zs.toArray).toList

theorem sortL_len (zs : List Nat) : (sortL zs).length = zs.length := by
  have h := (sort_is zs.toArray).1.1
  simp only [sortL, Array.length_toList]
  rw [h]; simp

/-- A fresh row with these floats; nothing old has turned. -/
def Fresh (w : World) (n : Nat) (zs : List Nat) (e : Ending) (w' : World) : Prop :=
  ∃ (g c : Nat), e = .returned (.slice (some ⟨g, 0, none⟩) n c) ∧ IsFl w' (some ⟨g, 0, none⟩) n g 0 zs ∧ Go.RowKit.Below w.heap.size w w'

theorem sorted_done {w W : World} {gb c len nn : Nat} {os : Array Obj} {ss : List Nat} (hH : Holds encF W gb 0 ss.toArray) (hgl : gb < W.heap.size) (hbase : w.heap.size ≤ gb) (hbel : Go.RowKit.Below w.heap.size w W) (hZ : ss.length = len) :
    Fresh w len (sortL ss) (.returned (.slice (some ⟨gb, 0, none⟩) len c)) (grow (putRow encF (Sort.ahead W nn) gb 0 (Sort.sort ltF ss.toArray)) os) := by
  have hsz : (Sort.sort ltF ss.toArray).size = ss.toArray.size := (sort_is ss.toArray).1.1
  have hl : (sortL ss).length = len := by rw [sortL_len, hZ]
  refine ⟨gb, c, rfl, ⟨hl, .inr rfl, .inr ?_, fun i hi => ?_⟩, hbel.grown (grownBy_sortedF _) hbel.size (fun k e => by cases e; exact hbase)⟩
  · have := (grownBy_sortedF (w := W) (g := gb) (n := nn) (os := os) (Sort.sort ltF ss.toArray)).size
    omega
  · have hi' : i < (Sort.sort ltF ss.toArray).size := by rw [hsz]; simp; omega
    rw [cell?_grow _ _ _ (by simpa using hgl), cell?_putRow encF _ gb 0 ss.toArray _ (holds_ahead _ _ _ _ _ _ hH) hsz i hi']
    simp [sortL, hi']

set_option maxRecDepth 100000 in
set_option maxHeartbeats 2000000 in
theorem Try.sorted_f (Bs len cap b off : Nat) (zs : List Nat) (w : World) (hBs : Bs < w.heap.size)
    (hc : w.cell? ⟨Bs, 0, none⟩ = some (.slice (some ⟨b, off, none⟩) len cap)) (hI : IsFl w (some ⟨b, off, none⟩) len b off zs) (hb : b < w.heap.size) (hlen : len ≤ 1048576) (h1 : 1 ≤ len) :
    CallsIn Fence.wide 6 Try.prog 13 #[.func (.func 19) #[] #[.pointer (some ⟨Bs, 0, none⟩)]] w (Fresh w len (sortL zs)) := by
  have hZ := hI.len
  have hfC : Fence.wide.fn 17 := trivial
  have hfS : Fence.wide.fn 18 := trivial
  have hseq := Try.values_gives Fence.wide (6 - 1 - 1 - 1) trivial rfl (by omega) Bs len cap b off zs w hBs hc hI hb hlen
  refine callsIn_of_wp Try.func13 rfl trivial ?_ rfl
  simp only [Try.ntmps13, List.size_toArray, List.length_cons, List.length_nil, Nat.reduceAdd, Nat.reduceSub, Array.replicate_succ, Array.replicate_zero, List.push_toArray, List.append_toArray, List.nil_append, List.cons_append]
  gi_wp2_with (gi_at_call 17; refine (Try.collect_in Fence.wide (6 - 1) trivial trivial rfl (by omega) 19 _ trivial (enters_of Try.func19 (by kernel_rfl) rfl) _ zs.length (by unfold maxLen; omega) (by omega) _ hseq).mono ?_; rintro e W ⟨v, ss, rfl, rfl, hrow, hnil, hbel⟩)
  rcases hrow.2 with ⟨_, hz⟩ | ⟨gb, c, cur, rfl, hbase, hgb, r1, r2, r3, r4⟩
  · omega
  · have hH : Holds encF W gb 0 ss.toArray := holds_of_blockF hgb (by simpa using r4)
    have hgl : gb < W.heap.size := (Array.getElem?_eq_some_iff.1 hgb).1
    have cS := Try.slices_Sort_f gb 0 c ss.toArray W hH hgl (by simp; omega)
    rw [List.size_toArray] at cS
    gi_wp2_with (gi_at_call 18; refine (callsIn_wide.2 cS).mono ?_; rintro e w' ⟨rfl, nn, os, rfl⟩)
    go_ret
    exact sorted_done hH hgl hbase hbel hZ
end Go.Proofs

/-
  slices.Values, slices.AppendSeq, slices.Collect at float64: the text of the library is walked. After the walks in the guide (Derived/Test/GgCollectAtTheDump, GgSlicesIterAtTheDump), turned to this program: other numbers, another element; the iterator reads the slice between the rounds, so the rounds are asked to keep what was there ('SeqGivesF').
-/
import Derived.Test.Qxb6600195aF0
import Derived.Shelf.SlIter.Collect
import Derived.RangeFuncBox
import Derived.RangeFuncLeaves
import Derived.RangeFuncGives
import Derived.Maps.AppendAt
import Derived.Shelf.Abstract
import Derived.OwnWalkIn
import Derived.TacticsInMore
import Derived.LoopNIn
import Derived.LoopIn
namespace Go.Proofs
open Go.RowKit Go.Shelf
attribute [local go_sem] run_store_float
attribute [local go_sem] Oper.semAt_some

/-- A value that gives the elements of a list, one a round, in order, where the rounds keep all that was there. -/
def SeqGivesF {α : Type} (F : Fence) (n : Nat) (P : Program) (g : Nat) (lb : Array Value) (enc : α → Value) (S : List α → Prop) (N : Nat) (w : World) : Prop :=
  ∀ (l : Nat) (J : List α → World → Prop) (W : World), Below w.heap.size w W → (∀ pre W1, J pre W1 → Below w.heap.size w W1) →
    (∀ pre x W1, J pre W1 → pre.length < N → YieldAt F (n - 1) P l #[enc x] W1 fun e W' => e = .returned (.bool true) ∧ J (pre ++ [x]) W' ∧ KeepsWalks W1 W') →
    J [] W →
    CallsIn F n P g (#[.func (.yield l) #[] #[]] ++ lb) W fun e W' => (∃ v, e = .returned v) ∧ ∃ xs, S xs ∧ J xs W'

theorem Try.info25 : (Try.prog.info? 25).map (fun i => (i.zero, i.size, i.bytes)) = some (some (.float .f64 0), 1, 8) := by kernel_rfl

/-- The loop's two codes, taken out of the function itself. -/
def rangeParts : Option Code → Code × Code
  | some (.seq _ (.seq (.seq _ (.block _ (.rangeFunc _ _ a b))) _)) => (a, b)
  | _ => (.skip, .skip)
/-- The loop's record: AppendSeq's temporaries as they stood at the entering: 's' boxed in block Bs; sv: the iterator's value. -/
def Try.apRec (A B : Code) (fn : FuncId) (sv : Value) (Bs D : Nat) (st : LoopState) (pend : Option Code) : Loop :=
  { state := st, pending := pend, fn, tmps := #[.slice none 0 0, sv, .pointer (some ⟨Bs, 0, none⟩), undef, .slice none 0 0, undef, sv, undef, undef, undef, undef, undef, undef], params := #[7], assign := A, body := B, defers := D }

/-- BETWEEN TWO ROUNDS: the box holds a slice that owns, in a block of the call's own, what has come so far; IT IS nil JUST AS LONG AS NOTHING HAS COME; nothing that lay before the call has turned. -/
structure Try.ApAt (A B : Code) (w0 : World) (fn : FuncId) (sv : Value) (Bs l D : Nat) (ss : List Nat) (W : World) : Prop where
  box : ∃ v, W.heap[Bs]? = some (.cells #[v] 22 (0, 0)) ∧ W.ownsRow w0.heap.size 25 1 v ss.length (ss.map encF) ∧ (v = .slice none 0 0 ↔ ss = [])
  L : W.heap[l]? = some (.loop (Try.apRec A B fn sv Bs D .ready none))
  K : W.heap[D]? = some (.deferred (some []))
  below : Below w0.heap.size w0 W

set_option maxRecDepth 100000 in
set_option maxHeartbeats 2000000 in
theorem Try.apYield (A B : Code) (hA : A = (rangeParts Try.f20.body).1) (hB : Hid (B = (rangeParts Try.f20.body).2)) (F : Fence) (m : Nat) (w0 : World) (fn : FuncId) (hfn : F.fn fn) (sv : Value) (Bs l D : Nat) (hBl : Bs ≠ l) (hDl : D ≠ l) (hDB : D ≠ Bs) (h0B : w0.heap.size ≤ Bs) (h0l : w0.heap.size ≤ l)
    (N : Nat) (hN : N ≤ maxLen) (hNb : N * 8 ≤ 140737488355328) (ss : List Nat) (x : Nat) (W : World) (h : Try.ApAt A B w0 fn sv Bs l D ss W) (hlen : ss.length < N) :
    YieldAt F m Try.prog l #[encF x] W fun e W' => e = .returned (.bool true) ∧ Try.ApAt A B w0 fn sv Bs l D (ss ++ [x]) W' ∧ KeepsWalks W W' := by
  obtain ⟨Q, hQ⟩ : ∃ Q, Try.ApAt A B w0 fn sv Bs l D (ss ++ [x]) = Q := ⟨_, rfl⟩
  rw [hQ]
  have HQ : Hid (Try.ApAt A B w0 fn sv Bs l D (ss ++ [x]) = Q) := hQ
  clear hQ
  obtain ⟨i0, hi, hz0, hz1, hz2⟩ := info_parts Try.info25
  obtain ⟨v, hv, hrow, _⟩ := h.box
  refine ⟨fn, #[.slice none 0 0, sv, .pointer (some ⟨Bs, 0, none⟩), undef, .slice none 0 0, undef, sv, encF x, undef, undef, undef, undef, undef], A, B, by simpa [Try.apRec] using run_yield (P := Try.prog) (args := #[encF x]) h.L rfl, roundIn_of_wpIn hfn ?_⟩
  have hl : l < W.heap.size := (Array.getElem?_eq_some_iff.1 h.L).1
  have hbr := run_beginRound (P := Try.prog) h.L rfl
  obtain ⟨W2, hW2⟩ : ∃ W2, W.putObj l (.loop { Try.apRec A B fn sv Bs D .ready none with state := .busy }) = W2 := ⟨_, rfl⟩
  rw [hW2] at hbr
  have hg2 : W.grownBy W2 (some l) := by rw [← hW2]; exact grownBy_putObj_a _ _ _
  have hk2 : KeepsWalks W W2 := by rw [← hW2]; exact KeepsWalks.putObj _ h.L rfl
  have hv2 : W2.heap[Bs]? = some (.cells #[v] 22 (0, 0)) := by rw [← hW2]; exact (World.putObj_heap_other hBl).trans hv
  have hK2 : W2.heap[D]? = some (.deferred (some [])) := by rw [← hW2]; exact (World.putObj_heap_other hDl).trans h.K
  have hL2 : W2.heap[l]? = some (.loop { Try.apRec A B fn sv Bs D .ready none with state := .busy }) := by rw [← hW2]; exact World.putObj_heap_same hl
  have hrow2 : W2.ownsRow w0.heap.size 25 1 v ss.length (ss.map encF) := hrow.kept hg2 (ownsRow_ne_a hrow h.L (fun cur e => by cases e))
  have hb2 : Below w0.heap.size w0 W2 := h.below.grown hg2 h.below.size (fun k e => by cases e; exact h0l)
  obtain ⟨hc2, hf2⟩ := cell_of_box_a hv2
  have hBlt : Bs < W2.heap.size := (Array.getElem?_eq_some_iff.1 hv2).1
  have hl2 : l < W2.heap.size := (Array.getElem?_eq_some_iff.1 hL2).1
  have hDlt : D < W2.heap.size := (Array.getElem?_eq_some_iff.1 hK2).1
  have ne_of : ∀ {j : Nat} {o : Obj}, W2.heap[j]? = some o → (∀ cur, o ≠ .cells cur 25 (0, 0)) → some j ≠ v.ownBlock := fun hj hno => by
    rcases ownsRow_ne_a hrow2 hj hno with e | e
    · rw [e]; simp
    · exact fun e' => e e'.symm
  clear hW2
  rw [hA]
  clear hA
  simp only [rangeParts, Try.f20]
  gi_wp2_with (rw [Oper.semAt_eq _ _ _ (fun c h => by cases h)]; go_simp; try go_bits)
  rw [hB.out]
  simp only [rangeParts, Try.f20]
  gi_wp2_with (first
    | (gi_at_builtin; refine wpListIn_append_own _ rfl _ _ 22 rfl w0.heap.size 25 i0 (.float .f64 0) 1 8 Try.underlying22 hi hz0 hz1 hz2 rfl (by decide) _ _ _ rfl (hrow2.alloc _) ⟨W2.heap.size, 0, none⟩ 1 1 [encF x] rfl rfl (cell_one_new _ _ _) (by simp [Value.oneCell']) (by omega) (by omega) (by have := hb2.size; simp; omega) ?_; intro v' w3 hown' hg3 hnil3
       have hv3 : w3.heap[Bs]? = some (.cells #[v] 22 (0, 0)) := (hg3.block Bs (by simp; omega) (ne_of hv2 (fun cur e => by cases e))).trans ((Below.heap_alloc _ _ Bs hBlt).trans hv2)
       obtain ⟨hc3, hf3⟩ := cell_of_box_a hv3
       obtain ⟨g', cap', cur', rfl, hbase', hgb', hr1, hr2, hr3, hr4⟩ : ∃ g' cap' cur', v' = .slice (some ⟨g', 0, none⟩) (ss.length + 1) cap' ∧ w0.heap.size ≤ g' ∧ w3.heap[g']? = some (.cells cur' 25 (0, 0)) ∧ ss.length + 1 ≤ cap' ∧ cap' ≤ maxLen ∧ cur'.size = cap' * 1 ∧ cur'.toList.take ((ss.length + 1) * 1) = ss.map encF ++ [encF x] := by
         rcases hown'.2 with ⟨_, h0⟩ | h'
         · exact absurd h0 (by omega)
         · exact h'
       go_frame)
    | (rw [Oper.semAt_eq _ _ _ (fun c h => by cases h)]; go_simp; try go_bits))
  have hg3' : (W2.alloc (.cells #[encF x] 25)).grownBy w3 v.ownBlock := hg3
  have hL3 : w3.heap[l]? = some (.loop { Try.apRec A B fn sv Bs D .ready none with state := .busy }) := (hg3'.block l (by simp; omega) (ne_of hL2 (fun cur e => by cases e))).trans ((Below.heap_alloc _ _ l hl2).trans hL2)
  have hK3 : w3.heap[D]? = some (.deferred (some [])) := (hg3'.block D (by simp; omega) (ne_of hK2 (fun cur e => by cases e))).trans ((Below.heap_alloc _ _ D hDlt).trans hK2)
  obtain ⟨w4, hw4⟩ : ∃ w4, w3.setCell ⟨Bs, 0, none⟩ (.slice (some ⟨g', 0, none⟩) (ss.length + 1) cap') = w4 := ⟨_, rfl⟩
  rw [hw4]
  have hg4 : w3.grownBy w4 (some Bs) := by rw [← hw4]; exact grownBy_setCell0_a _ _ _
  have hv4 : w4.heap[Bs]? = some (.cells #[.slice (some ⟨g', 0, none⟩) (ss.length + 1) cap'] 22 (0, 0)) := by rw [← hw4]; exact heap_setCell_box_a _ hv3
  have hL4 : w4.heap[l]? = some (.loop { Try.apRec A B fn sv Bs D .ready none with state := .busy }) := (hg4.block l (Array.getElem?_eq_some_iff.1 hL3).1 (fun e => hBl (by cases e; rfl))).trans hL3
  have hK4 : w4.heap[D]? = some (.deferred (some [])) := (hg4.block D (Array.getElem?_eq_some_iff.1 hK3).1 (fun e => hDB (by cases e; rfl))).trans hK3
  have hrow4 := hown'.kept hg4 (ownsRow_ne_a hown' hv3 (fun cur e => by cases e))
  have hl4 : l < w4.heap.size := (Array.getElem?_eq_some_iff.1 hL4).1
  have hb3 : Below w0.heap.size w0 w3 := (hb2.alloc hb2.size _).grown hg3' (by have := hb2.size; simp; omega) (fun k e => (hrow2.lt k e).1)
  have hb4 : Below w0.heap.size w0 w4 := hb3.grown hg4 hb3.size (fun k e => by cases e; exact h0B)
  have hk4 : KeepsWalks W w4 := ((hk2.trans (KeepsWalks.alloc _ _)).trans (KeepsWalks.of_grownBy hg3' (ownsRow_not_walk_a (hrow2.alloc _)))).trans (by rw [← hw4]; exact KeepsWalks.setCell _ _ _)
  clear hw4
  rw [← HQ.out]
  refine ⟨_, _, run_endRound none hL4, rfl, ⟨⟨_, (World.putObj_heap_other hBl).trans hv4, ?_, by simp⟩, World.putObj_heap_same hl4, (World.putObj_heap_other hDl).trans hK4, hb4.grown (grownBy_putObj_a _ _ _) hb4.size (fun k e => by cases e; exact h0l)⟩, hk4.trans (KeepsWalks.putObj _ hL4 rfl)⟩
  have := hrow4.kept (grownBy_putObj_a w4 l (.loop { { Try.apRec A B fn sv Bs D .ready none with state := .busy } with state := if (none : Option Code).isNone then .ready else .done, pending := none })) (ownsRow_ne_a hrow4 hL4 (fun cur e => by cases e))
  simpa using this

set_option maxRecDepth 100000 in
set_option maxHeartbeats 2000000 in
/-- **slices.AppendSeq(nil, seq), AGAINST WHATEVER ITERATOR VALUE THAT 'SeqGivesF'**: it hands back a slice that owns, in a block of the call's own, JUST WHAT THE ITERATOR GAVE, IN THAT ORDER; nil JUST WHERE IT GAVE NOTHING (as Go: 'slices.Collect' of nothing is nil); nothing that lay before the call has turned. -/
theorem Try.appendSeq_in (F : Fence) (n : Nat) (h11 : F.fn 20) (hro : F.round = none) (hn : 2 ≤ n) (g : Nat) (lb : Array Value) (hFg : F.fn g) (eg : ∀ args w, (callFunc g args).run Try.prog w = .ok (.enter g args) w)
    (S : List Nat → Prop) (N : Nat) (hN : N ≤ maxLen) (hNb : N * 8 ≤ 140737488355328) (w : World) (hseq : SeqGivesF F (n - 1) Try.prog g lb encF S N w) :
    CallsIn F n Try.prog 20 #[.slice none 0 0, .func (.func g) #[] lb] w fun e w' => ∃ (v : Value) (ss : List Nat), e = .returned v ∧ S ss ∧ w'.ownsRow w.heap.size 25 1 v ss.length (ss.map encF) ∧ (v = .slice none 0 0 ↔ ss = []) ∧ Below w.heap.size w w' := by
  have h1 : 1 ≤ n := by omega
  refine callsIn_of_wp_marks Try.func20 rfl h11 ?_ hro
  simp only [Try.ntmps20, List.size_toArray, List.length_cons, List.length_nil, Nat.reduceAdd, Nat.reduceSub, Array.replicate_succ, Array.replicate_zero, List.push_toArray, List.append_toArray, List.nil_append, List.cons_append]
  gi_wp2
  refine wpIn_rangeFunc ?_
  intro fn hfn
  rw [hro]
  obtain ⟨W0, hW0⟩ : ∃ W0, w.alloc (.cells #[.slice none 0 0] 22) = W0 := ⟨_, rfl⟩
  have hs0 : W0.heap.size = w.heap.size + 1 := by rw [← hW0]; simp
  have hv0 : W0.heap[w.heap.size]? = some (.cells #[.slice none 0 0] 22 (0, 0)) := by rw [← hW0]; exact World.alloc_heap_new w _
  have hb0 : Below w.heap.size w W0 := by rw [← hW0]; exact (Below.refl _ w).alloc (Nat.le_refl _) _
  rw [hW0]
  obtain ⟨W1, hW1⟩ : ∃ W1, (W0.alloc (.deferred (some []))).alloc (.loop (Try.apRec (rangeParts Try.f20.body).1 (rangeParts Try.f20.body).2 fn (.func (.func g) #[] lb) w.heap.size W0.heap.size .ready none)) = W1 := ⟨_, rfl⟩
  have hold : ∀ k, k < W0.heap.size → W1.heap[k]? = W0.heap[k]? := fun k hk => by
    rw [← hW1]; exact (Below.heap_alloc _ _ k (by simp; omega)).trans (Below.heap_alloc _ _ k hk)
  have hb1 : Below w.heap.size w W1 := by rw [← hW1]; exact (hb0.alloc hb0.size _).alloc (by have := hb0.size; simp; omega) _
  have hs1 : W1.heap.size = W0.heap.size + 2 := by rw [← hW1]; simp
  have hM : Try.ApAt (rangeParts Try.f20.body).1 (rangeParts Try.f20.body).2 w fn (.func (.func g) #[] lb) w.heap.size (W0.heap.size + 1) W0.heap.size [] W1 :=
    ⟨⟨_, (hold w.heap.size (by omega)).trans hv0, ⟨rfl, .inl ⟨rfl, rfl⟩⟩, by simp⟩,
     by rw [← hW1]; have := World.alloc_heap_new (W0.alloc (.deferred (some []))) (.loop (Try.apRec (rangeParts Try.f20.body).1 (rangeParts Try.f20.body).2 fn (.func (.func g) #[] lb) w.heap.size W0.heap.size .ready none)); rwa [World.size_alloc] at this,
     by rw [← hW1]; exact (Below.heap_alloc _ _ _ (by simp)).trans (World.alloc_heap_new W0 _), hb1⟩
  refine ⟨W0.heap.size + 1, [{ target := .collected W0.heap.size, args := #[] }], W1, { target := .fn (.func g) lb, args := #[.func (.yield (W0.heap.size + 1)) #[] #[]] }, W1, g,
    #[.func (.yield (W0.heap.size + 1)) #[] #[]] ++ lb, W1, ?_, ?_, ?_, ?_, fun _ => h1, ?_⟩
  · rw [← hW1]; exact run_enterLoop_outer _ _ _ _ _
  · simp [resolve, go_sem]
  · intro f' hf'; simp [Target.leads] at hf'; subst hf'; exact hFg
  · simp [invoke, go_sem, eg]
  · refine (hseq (W0.heap.size + 1) (Try.ApAt (rangeParts Try.f20.body).1 (rangeParts Try.f20.body).2 w fn (.func (.func g) #[] lb) w.heap.size (W0.heap.size + 1) W0.heap.size) W1 hb1 (fun _ _ h => h.below)
      (fun pre x W hJ hl => Try.apYield _ _ rfl rfl F (n - 1 - 1) w fn hfn _ w.heap.size (W0.heap.size + 1) W0.heap.size (by omega) (by omega) (by omega) (Nat.le_refl _) (by omega) N hN hNb pre x W hJ hl) hM).mono ?_
    rintro e W2 ⟨⟨v0, rfl⟩, ss, hS, h2⟩
    obtain ⟨v, hv, hrow, hnil⟩ := h2.box
    have hend := run_endLoop (P := Try.prog) h2.L (by simp [Try.apRec])
    obtain ⟨W3, hW3⟩ : ∃ W3, W2.putObj (W0.heap.size + 1) (.loop { Try.apRec (rangeParts Try.f20.body).1 (rangeParts Try.f20.body).2 fn (.func (.func g) #[] lb) w.heap.size W0.heap.size .ready none with state := .exhausted }) = W3 := ⟨_, rfl⟩
    rw [hW3] at hend
    have hg3 : W2.grownBy W3 (some (W0.heap.size + 1)) := by rw [← hW3]; exact grownBy_putObj_a _ _ _
    have hv3 : W3.heap[w.heap.size]? = some (.cells #[v] 22 (0, 0)) := by rw [← hW3]; exact (World.putObj_heap_other (by omega)).trans hv
    have hK3 : W3.heap[W0.heap.size]? = some (.deferred (some [])) := by rw [← hW3]; exact (World.putObj_heap_other (by omega)).trans h2.K
    have hrow3 := hrow.kept hg3 (ownsRow_ne_a hrow h2.L (fun cur e => by cases e))
    have hb3 : Below w.heap.size w W3 := h2.below.grown hg3 h2.below.size (fun k e => by cases e; omega)
    obtain ⟨hc3, hf3⟩ := cell_of_box_a hv3
    clear hW3
    refine ⟨none, W3, hend, ?_⟩
    gi_wp2
    rw [← hs0]
    refine ⟨by simp, .inl ⟨_, _, rfl, run_takeDeferred hK3, ?_⟩⟩
    exact ⟨_, results_tmp rfl _ _ _, v, ss, rfl, hS, hrow3.kept (grownBy_putObj_a _ _ _) (ownsRow_ne_a hrow3 hK3 (fun cur e => by cases e)), hnil, hb3.grown (grownBy_putObj_a _ _ _) hb3.size (fun k e => by cases e; omega)⟩

set_option maxHeartbeats 1000000 in
/-- **slices.Collect(seq), AGAINST WHATEVER ITERATOR VALUE.** -/
theorem Try.collect_in (F : Fence) (n : Nat) (h8 : F.fn 17) (h11 : F.fn 20) (hro : F.round = none) (hn : 3 ≤ n) (g : Nat) (lb : Array Value) (hFg : F.fn g) (eg : ∀ args w, (callFunc g args).run Try.prog w = .ok (.enter g args) w)
    (S : List Nat → Prop) (N : Nat) (hN : N ≤ maxLen) (hNb : N * 8 ≤ 140737488355328) (w : World) (hseq : SeqGivesF F (n - 1 - 1) Try.prog g lb encF S N w) :
    CallsIn F n Try.prog 17 #[.func (.func g) #[] lb] w fun e w' => ∃ (v : Value) (ss : List Nat), e = .returned v ∧ S ss ∧ w'.ownsRow w.heap.size 25 1 v ss.length (ss.map encF) ∧ (v = .slice none 0 0 ↔ ss = []) ∧ Below w.heap.size w w' := by
  have h1 : 1 ≤ n := by omega
  refine callsIn_of_wp Try.func17 rfl h8 ?_ hro
  simp only [Try.ntmps17, List.size_toArray, List.length_cons, List.length_nil, Nat.reduceAdd, Nat.reduceSub, Array.replicate_succ, Array.replicate_zero, List.push_toArray, List.append_toArray, List.nil_append, List.cons_append]
  gi_wp2_with (gi_at_call 20; refine (Try.appendSeq_in F (n - 1) h11 hro (by omega) g lb hFg eg S N hN hNb _ hseq).mono ?_; rintro e w' ⟨v, ss, rfl, hS, hrow, hnil, hb⟩)
  go_ret
  exact ⟨v, ss, rfl, hS, hrow, hnil, hb⟩
end Go.Proofs

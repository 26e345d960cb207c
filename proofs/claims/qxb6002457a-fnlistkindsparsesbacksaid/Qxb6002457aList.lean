/-
  batch.listKinds (22) and batch.ZZlistKinds (17): the text that they hand back, as a plain function of the strings ('lk').
-/
import Derived.Test.Qxb6002457aSmall
import Derived.Test.Qxb6002457aShelf
import Derived.Deep.RegionWith
import Derived.BigRegion
namespace Go.Proofs.Qxb6002457a
open Go.RowKit

/-- The strings as lists of bytes. -/
def bs (ss : List ByteArray) : List (List UInt8) := ss.map (·.data.toList)

theorem bs_len (ss : List ByteArray) : (bs ss).length = ss.length := by simp [bs]

theorem tot_lens (ss : List ByteArray) (k : Nat) (h : k ≤ ss.length) : tot ss k = Lib.lens ((bs ss).take k) := by
  induction k with
  | zero => simp [tot, Lib.lens]
  | succ k ih =>
    have hg : (bs ss)[k]? = some (ss.getD k ByteArray.empty).data.toList := by
      simp [bs, List.getElem?_eq_getElem (show k < ss.length from by omega)]
    rw [Lib.lens_take_succ _ _ _ hg, ← ih (by omega)]
    show _ + _ = _ + _
    congr 1

theorem tot_all (ss : List ByteArray) : tot ss ss.length = Lib.lens (bs ss) := by
  rw [tot_lens ss _ (Nat.le_refl _), List.take_of_length_le (by simp [bs])]

theorem join_len_le (xs : List (List UInt8)) (sep : List UInt8) : (Lib.join xs sep).length ≤ sep.length * xs.length + Lib.lens xs := by
  cases xs with
  | nil => simp [Lib.join_nil]
  | cons x r =>
    rw [Lib.join_length]
    have := Nat.mul_le_mul_left sep.length (Nat.le_succ r.length)
    simp only [List.length_cons]
    exact Nat.add_le_add_right this _

/-- strings.Join at the first m strings of a row of the call's own. -/
theorem join_row (g n m : Nat) (ss : List ByteArray) (sep : ByteArray) (w : World) (hg : g < w.heap.size) (hm : m ≤ n) (hss : ss.length = n) (hn : n + tot ss n ≤ 1048576) (hsep : sep.size ≤ 2)
    (hc : ∀ i, i < n → w.cell? ⟨g, i, none⟩ = some (.string (ss.getD i ByteArray.empty))) :
    Calls Try.prog 24 #[.slice (some ⟨g, 0, none⟩) m n, .string sep] w fun e w' => ∃ J : ByteArray, e = .returned (.string J) ∧ Hid (J.data.toList = Lib.join ((bs ss).take m) sep.data.toList) ∧ J.size ≤ 4194304 ∧ Below w.heap.size w w' := by
  have hl : (ss.take m).length = m := by rw [List.length_take]; omega
  have e1 : (ss.take m).map (·.data.toList) = (bs ss).take m := by simp [bs]
  have hlen : (Lib.join ((bs ss).take m) sep.data.toList).length ≤ 4194304 := by
    have h1 := join_len_le ((bs ss).take m) sep.data.toList
    have h2 := Lib.lens_take_le (bs ss) m
    rw [← tot_all, hss] at h2
    have h3 : sep.data.toList.length ≤ 2 := by rw [Array.length_toList]; exact hsep
    have h4 : ((bs ss).take m).length = m := by rw [List.length_take, bs_len]; omega
    rw [h4] at h1
    have h5 := Nat.mul_le_mul_right m h3
    omega
  have h := Try.strings_Join g 0 n (ss.take m) sep w (fun j x hj => by
      have hj' : j < m := by have := (List.getElem?_eq_some_iff.1 hj).1; omega
      rw [List.getElem?_take, if_pos hj'] at hj
      rw [Nat.zero_add, hc j (by omega), List.getD_eq_getElem?_getD, hj]
      rfl) hg (by omega) (by omega) (by rw [e1]; omega)
  rw [hl, e1] at h
  refine h.mono ?_
  rintro e w' ⟨rfl, hb⟩
  exact ⟨_, rfl, by unfold Hid; simp, show (Lib.join ((bs ss).take m) sep.data.toList).toArray.size ≤ _ by rw [List.size_toArray]; exact hlen, hb⟩

/-- WHAT listKinds WRITES. -/
def lk (xs : List (List UInt8)) : List UInt8 :=
  if xs.length < 2 then Lib.join xs [] else Lib.join (xs.take (xs.length - 1)) [44, 32] ++ [32, 111, 114, 32] ++ xs.getD (xs.length - 1) []

/-- It hands back the text; nothing old has turned. -/
def Wrote (w : World) (ss : List ByteArray) (e : Ending) (w' : World) : Prop :=
  ∃ J : ByteArray, e = .returned (.string J) ∧ J.data.toList = lk (bs ss) ∧ J.size ≤ 8388608 ∧ Below w.heap.size w w'

theorem lk_two (ss : List ByteArray) (m : Nat) (J s : ByteArray) (hS : ss.length = m + 1) (hm : 1 ≤ m) (hJ : J.data.toList = Lib.join ((bs ss).take m) [44, 32]) (hX : (bs ss).getD m [] = s.data.toList) :
    (J ++ ⟨#[32, 111, 114, 32]⟩ ++ s).data.toList = lk (bs ss) := by
  unfold lk
  rw [if_neg (by rw [bs_len, hS]; omega), bs_len, hS, Nat.add_sub_cancel, hX, ← hJ]
  simp

theorem lk_size (J s : ByteArray) (hJ : J.size ≤ 4194304) (hs : s.size ≤ 1048576) : (J ++ ⟨#[32, 111, 114, 32]⟩ ++ s).size ≤ 8388608 := by
  have h4 : (⟨#[32, 111, 114, 32]⟩ : ByteArray).size = 4 := rfl
  rw [ByteArray.size_append, ByteArray.size_append, h4]
  omega

set_option maxHeartbeats 800000 in
theorem listKinds (a : Option Addr) (n cap b off : Nat) (ss : List ByteArray) (w : World) (h : IsStrs w a n b off ss) (hn : n + tot ss n ≤ 1048576) :
    Calls Try.prog 22 #[.slice a n cap] w (Wrote w ss) := by
  obtain ⟨i0, hi, hz0, hz1, hz2⟩ := info_parts Try.info9
  have hA : Hid (n = 0 ∨ a = some ⟨b, off, none⟩) := h.addr
  have hL : Hid (n = 0 ∨ b < w.heap.size) := h.lt
  have hS : Hid (ss.length = n) := h.len
  have hcells := h.cells
  clear h
  go_enter Try.func22, Try.ntmps22
  go_wp2_with (refine wpList_make_full _ rfl _ _ 25 rfl w.heap.size 9 i0 (.string ByteArray.empty) 1 Try.underlying25 hi hz0 hz1 .i64 .i64 _ _ n rfl rfl rfl rfl (by rw [hz2]; omega) (by unfold maxLen; omega) (Nat.le_refl _) ?_; intro w1 hown hgrow)
  go_wp2
  go_loopw [12] (fun i wr => ∃ k : Nat, k ≤ n ∧ i = .int .i64 k ∧ wr.ownsRow w.heap.size 9 1 (.slice (some ⟨w.heap.size, 0, none⟩) n n) n (rowK ss n k) ∧ Below w.heap.size w wr) (fun i _ => n - (intOf i).toNat)
  case atStart =>
    refine ⟨0, Nat.zero_le _, rfl, ?_, (Below.refl _ _).grown hgrow (Nat.le_refl _) (fun _ h => by cases h)⟩
    rw [rowK_zero, ← toList_madeCells_one]
    rw [Nat.mul_one] at hown
    exact hown
  case round =>
    clear hown hgrow
    obtain ⟨k, hk, rfl, hown, hbel⟩ := hrel
    by_cases hlt : k < n
    · obtain rfl : a = some ⟨b, off, none⟩ := hA.out.resolve_left (by omega)
      have hb : b < w.heap.size := hL.out.resolve_left (by omega)
      have hc : wr.cell? ⟨b, off + k, none⟩ = some (.string (ss.getD k ByteArray.empty)) := (hbel.cell (p := ⟨b, off + k, none⟩) hb).trans (hcells k hlt)
      have hd : wr.cell? ⟨w.heap.size, k, none⟩ = some (.string ByteArray.empty) := by
        rw [hown.cellAt k (by omega)]; simp [rowK, hlt]
      have hf : wr.frozen? ⟨w.heap.size, k, none⟩ = false := hown.frozenAt k
      have hset := rowK_set ss n k
      generalize ss.getD k ByteArray.empty = s at hc hset
      have R := hown.stored k (.string s)
      rw [hset] at R
      have R2 := hbel.setCell (p := ⟨w.heap.size, k, none⟩) (Nat.le_refl _) (.string s)
      have HR : Hid (_ ∧ _) := ⟨R.1, R2⟩
      clear R R2 hset hcells hown hbel
      go_wp2
      go_roundw
      case rel => exact ⟨k + 1, by omega, by go_num, HR.out.1, HR.out.2⟩
      case measure => simp [intOf]; omega
    · have hkn : k = n := by omega
      subst hkn
      clear hcells
      have hg : w.heap.size < wr.heap.size := by
        rcases hown.2 with ⟨h, _⟩ | ⟨g, c, cur, h, _, hg, _⟩
        · cases h
        · simp only [Value.slice.injEq, Option.some.injEq, Addr.mk.injEq, and_true, true_and] at h
          obtain ⟨rfl, _⟩ := h
          exact lt_of_block hg
      have HC : Hid (∀ i, i < k → wr.cell? ⟨w.heap.size, i, none⟩ = some (.string (ss.getD i ByteArray.empty))) := fun i hi => by
        rw [hown.cellAt i (by omega)]
        exact rowK_get ss k i hi
      clear hown
      have hsz := hbel.size
      by_cases h2 : k < 2
      · go_wp2_with (go_at_call 24; refine (join_row w.heap.size k k ss ⟨#[]⟩ wr hg (Nat.le_refl _) hS.out hn (by decide) HC.out).mono ?_; rintro e w2 ⟨J, rfl, hJ, hJs, hb2⟩)
        go_ret
        refine ⟨J, rfl, ?_, by omega, hbel.trans (hb2.mono hsz)⟩
        rw [hJ.out, lk, if_pos (by rw [bs_len, hS.out]; exact h2), List.take_of_length_le (by rw [bs_len, hS.out]; exact Nat.le_refl _)]
      · obtain ⟨m, rfl⟩ : ∃ m, k = m + 1 := ⟨k - 1, by omega⟩
        have hm : 1 ≤ m := by omega
        have hcl : wr.cell? ⟨w.heap.size, m, none⟩ = some (.string (ss.getD m ByteArray.empty)) := HC.out m (by omega)
        have hsl := size_le_tot ss (show m < m + 1 from Nat.lt_succ_self m)
        have HX : Hid ((bs ss).getD m [] = (ss.getD m ByteArray.empty).data.toList) := by
          unfold Hid
          simp [bs, List.getElem?_eq_getElem (show m < ss.length from by rw [hS.out]; omega)]
        generalize ss.getD m ByteArray.empty = s at hcl hsl HX
        have hs : s.size ≤ 1048576 := by omega
        clear hsl
        go_wp2
        go_region_with (go_at_call 24; refine (join_row w.heap.size (m + 1) m ss ⟨#[44, 32]⟩ _ ?_ (by omega) hS.out hn (by decide) ?_).mono ?_; exact hg; exact HC.out; rintro e w2 ⟨J, rfl, hJ, hJs, hb2⟩; have hcl2 : w2.cell? ⟨w.heap.size, m, none⟩ = some (.string s) := (hb2.cell (p := ⟨w.heap.size, m, none⟩) hg).trans hcl)
        all_goals
          go_wp2
          go_ret
          exact ⟨_, rfl, lk_two ss m J s hS.out hm hJ.out HX.out, lk_size J s hJs hs, hbel.drew.trans (hb2.mono hsz)⟩
end Go.Proofs.Qxb6002457a

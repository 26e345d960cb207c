/-
  zzParseList (18) at the text that listKinds writes of plain words: it hands back the words, in order.
-/
import Derived.Test.Qxb6002457aText
namespace Go.Proofs.Qxb6002457a
open Go.RowKit

/-- The words, in a row of the call's own; nothing old has turned. -/
def Parsed (w : World) (ss : List ByteArray) (e : Ending) (w' : World) : Prop :=
  ∃ v, e = .returned (.tuple #[v, .bool true]) ∧ w'.ownsRow w.heap.size 9 1 v ss.length (ss.map Value.string) ∧ Below w.heap.size w w'

/-- What the loop holds ahead of word k. -/
def AtWord (w : World) (J : ByteArray) (ss : List ByteArray) (k p : Nat) (v : Value) (l : Bool) (wr : World) : Prop :=
  k < ss.length ∧ p ≤ J.size ∧ l = decide (1 ≤ k ∧ k + 1 = ss.length) ∧ wr.ownsRow w.heap.size 9 1 v k ((ss.take k).map Value.string) ∧ Below w.heap.size w wr ∧ J.data.toList.drop p = txt ((bs ss).drop k)

/-! ### What stands at word k -/
section
variable {w : World} {J : ByteArray} {ss : List ByteArray} {k p : Nat} {v : Value} {l : Bool} {wr : World}

theorem AtWord.last (h : AtWord w J ss k p v l wr) (hk : k + 1 = ss.length) : J.data.toList.drop p = (ss.getD k ByteArray.empty).data.toList ++ [] := by
  rw [h.2.2.2.2.2, bs_drop ss k h.1, List.drop_of_length_le (show (bs ss).length ≤ k + 1 by rw [bs_len]; omega), txt_one, List.append_nil]

theorem AtWord.two (h : AtWord w J ss k p v l wr) (hk : k + 2 = ss.length) : J.data.toList.drop p = (ss.getD k ByteArray.empty).data.toList ++ ([32, 111, 114, 32] ++ txt ((bs ss).drop (k + 1))) := by
  rw [h.2.2.2.2.2, bs_drop ss k h.1, bs_drop ss (k + 1) (by omega), List.drop_of_length_le (show (bs ss).length ≤ k + 1 + 1 by rw [bs_len]; omega), txt_two]

theorem AtWord.more (h : AtWord w J ss k p v l wr) (hk : k + 3 ≤ ss.length) : J.data.toList.drop p = (ss.getD k ByteArray.empty).data.toList ++ ([44, 32] ++ txt ((bs ss).drop (k + 1))) := by
  rw [h.2.2.2.2.2, bs_drop ss k h.1, bs_drop ss (k + 1) (by omega), bs_drop ss (k + 1 + 1) (by omega), txt_more]

/-- The word is plain: its bytes are neither a comma nor a blank, and there is one. -/
theorem word_bytes {s : ByteArray} {R : List UInt8} (h : J.data.toList.drop p = s.data.toList ++ R) (hp : plain s.data.toList) (hpJ : p ≤ J.size) :
    1 ≤ s.size ∧ p + s.size + R.length = J.size ∧ ∀ t, t < s.size → ∃ hi : p + t < J.size, ((J[p + t].toNat : Int) != 44) = true ∧ ((J[p + t].toNat : Int) != 32) = true := by
  have hl := at_len h hpJ
  rw [← Lib.size_eq] at hl
  refine ⟨?_, hl, fun t ht => ⟨by omega, ?_⟩⟩
  · rcases Nat.eq_zero_or_pos s.size with h0 | h0
    · exact absurd (List.length_eq_zero_iff.1 (by rw [← Lib.size_eq]; exact h0)) hp.1
    · exact h0
  · have hm := hp.2 _ (at_word h t (by rw [← Lib.size_eq]; exact ht) (by omega))
    refine ⟨bne_iff_ne.2 fun e => hm.1 ?_, bne_iff_ne.2 fun e => hm.2 ?_⟩
    · exact UInt8.toNat_inj.1 (by have : (44 : UInt8).toNat = 44 := rfl; omega)
    · exact UInt8.toNat_inj.1 (by have : (32 : UInt8).toNat = 32 := rfl; omega)
end

theorem take_snoc (ss : List ByteArray) (k : Nat) (h : k < ss.length) : (ss.take k).map Value.string ++ [.string (ss.getD k ByteArray.empty)] = (ss.take (k + 1)).map Value.string := by
  rw [List.take_succ_eq_append_getElem h, List.map_append]
  simp [List.getElem?_eq_getElem h]

/-- What is owned and not empty begins at the head of a row. -/
theorem own_shape {w : World} {base e size n : Nat} {v : Value} {xs : List Value} (h : w.ownsRow base e size v n xs) (hn : 0 < n) : ∃ g c, v = .slice (some ⟨g, 0, none⟩) n c := by
  rcases h.2 with ⟨_, h0⟩ | ⟨g, c, _, h1, _⟩
  · omega
  · exact ⟨g, c, h1⟩

theorem parsed_done {w w3 : World} {ss : List ByteArray} {k : Nat} {s : ByteArray} {v : Value} (hS : ss.getD k ByteArray.empty = s) (hL : k + 1 = ss.length)
    (h : w3.ownsRow w.heap.size 9 1 v (k + 1) ((ss.take k).map Value.string ++ [.string s])) : w3.ownsRow w.heap.size 9 1 v ss.length (ss.map Value.string) := by
  rw [← hS, take_snoc ss k (by omega), hL, List.take_length] at h
  exact h

theorem AtWord.next {w w3 wr : World} {J : ByteArray} {ss : List ByteArray} {k p : Nat} {s : ByteArray} {v v' : Value} {l l' : Bool} (A : List UInt8) (h : AtWord w J ss k p v l wr) (hS : ss.getD k ByteArray.empty = s)
    (hd : J.data.toList.drop p = s.data.toList ++ (A ++ txt ((bs ss).drop (k + 1)))) (hk : k + 1 < ss.length) (hl : l' = decide (k + 2 = ss.length))
    (ho : w3.ownsRow w.heap.size 9 1 v' (k + 1) ((ss.take k).map Value.string ++ [.string s])) (hb : Below w.heap.size w w3) : AtWord w J ss (k + 1) (p + s.size + A.length) v' l' w3 := by
  have hlen := at_len hd h.2.1
  rw [← Lib.size_eq, List.length_append] at hlen
  refine ⟨hk, by omega, ?_, ?_, hb, ?_⟩
  · rw [hl]
    congr 1
    exact propext ⟨fun e => ⟨by omega, by omega⟩, fun e => by omega⟩
  · rw [← hS, take_snoc ss k h.1] at ho
    exact ho
  · have := drop_more A hd
    rw [← Lib.size_eq] at this
    exact this

set_option maxHeartbeats 400000 in
theorem parse_none (w : World) : Calls Try.prog 18 #[.string ⟨#[]⟩] w (Parsed w []) := by
  go_enter Try.func18, Try.ntmps18
  go_wp2
  go_ret2
  exact ⟨_, rfl, World.ownsRow_nil _ _ _ _, Below.refl _ _⟩

set_option maxRecDepth 10000 in
set_option maxHeartbeats 1600000 in
theorem parse_some (J : ByteArray) (ss : List ByteArray) (w : World) (hJ : J.data.toList = lk (bs ss)) (hJs : J.size ≤ 8388608) (h1 : 1 ≤ ss.length) (hn : ss.length ≤ 1048576) (hp : ∀ s ∈ ss, plain s.data.toList) (h0 : J.size ≠ 0) :
    Calls Try.prog 18 #[.string J] w (Parsed w ss) := by
  obtain ⟨i0, hi, hz0, hz1, hz2⟩ := info_parts Try.info9
  have HJ : Hid (J.data.toList = lk (bs ss)) := hJ
  have HP : Hid (∀ s ∈ ss, plain s.data.toList) := hp
  clear hJ hp
  have hz : ((J.size : Int) == 0) = false := beq_eq_false_iff_ne.2 (by omega)
  go_enter Try.func18, Try.ntmps18
  go_wp2
  go_loopw [4, 5, 6] (fun v i l wr => ∃ (k p : Nat) (a : Option Addr) (c : Nat) (l' : Bool), v = .slice a k c ∧ i = .int .i64 p ∧ l = .bool l' ∧ AtWord w J ss k p v l' wr) (fun _ i _ _ => J.size + 1 - (intOf i).toNat)
  case atStart =>
    exact ⟨0, 0, none, 0, false, rfl, rfl, rfl, by omega, Nat.zero_le _, by simp, World.ownsRow_nil _ _ _ _, Below.refl _ _, by rw [List.drop_zero, List.drop_zero, ← lk_txt]; exact HJ.out⟩
  case round =>
    obtain ⟨k, p, a, c, l, rfl, rfl, rfl, hA⟩ := hrel
    have HA : Hid (AtWord w J ss k p (.slice a k c) l wr) := hA
    obtain ⟨hk, hpJ, hl, hown, hbel, hdrop⟩ := hA
    have hpl := HP.out (ss.getD k ByteArray.empty) (by rw [List.getD_eq_getElem?_getD, List.getElem?_eq_getElem hk]; exact List.getElem_mem hk)
    rcases (show k + 1 = ss.length ∨ k + 2 = ss.length ∨ k + 3 ≤ ss.length from by omega) with hlast | htwo | hmore
    · have hd := HA.out.last hlast
      have hw := word_is _ hd
      generalize hs : ss.getD k ByteArray.empty = s at hd hw hpl
      have HS : Hid (ss.getD k ByteArray.empty = s) := hs
      have HD : Hid (_ = _) := hd
      obtain ⟨hs1, hlen, hby⟩ := word_bytes hd hpl hpJ
      rw [List.length_nil, Nat.add_zero] at hlen
      have hne : (((p : Int) + (s.size : Int)) == (p : Int)) = false := beq_eq_false_iff_ne.2 (by omega)
      have hszw := hbel.size
      have HKL : (l = false ∧ k = 0) ∨ (l = true ∧ ((k : Int) + 1 == 1) = false) := by
        rcases Nat.eq_zero_or_pos k with h2 | h2
        · exact .inl ⟨by rw [hl, h2]; rfl, h2⟩
        · exact .inr ⟨by rw [hl]; exact decide_eq_true ⟨h2, hlast⟩, beq_eq_false_iff_ne.2 (by omega)⟩
      have hle : p + s.size ≤ J.size := by omega
      have hge : J.size ≤ p + s.size := by omega
      clear hs hd hdrop hpl hl hlen
      have hdec : decide ((p : Int) + (s.size : Int) < (J.size : Int)) = false := decide_eq_false (by omega)
      have hend : (((p : Int) + (s.size : Int)) == (J.size : Int)) = true := beq_iff_eq.2 (by omega)
      have HL : Hid (k + 1 = ss.length) := hlast
      clear hlast
      rcases HKL with ⟨rfl, rfl⟩ | ⟨rfl, hk1⟩
      all_goals
        go_wp2
        go_loop [5] (fun i => ∃ t : Nat, t ≤ s.size ∧ i = .int .i64 ((p + t : Nat) : Int)) (fun i => J.size + 1 - (intOf i).toNat)
        case atStart => exact ⟨0, Nat.zero_le _, by simp⟩
        case round =>
          obtain ⟨t, ht, rfl⟩ := hrel
          by_cases hlt : t < s.size
          · obtain ⟨hi, c1, c2⟩ := hby t hlt
            clear hby
            go_wp2
            go_round
            case rel => first | exact ⟨t + 1, by omega, by go_num⟩ | (refine ⟨trivial, ?_⟩; (repeat apply Exists.intro); refine ⟨⟨t + 1, by omega, ?_⟩, rfl⟩; go_num)
            case measure => simp [intOf]; omega
          · obtain rfl : t = s.size := by omega
            clear hby
            go_wp2_with (at_builtin; refine wpList_append_own _ rfl _ _ 25 rfl w.heap.size 9 i0 (.string ByteArray.empty) 1 16 Try.underlying25 hi hz0 hz1 hz2 rfl (by decide) _ _ _ rfl (hown.alloc _) ⟨wr.heap.size, 0, none⟩ 1 1 [.string s] rfl rfl (cell_one_new _ _ _) (fun x hx => by simp at hx; subst hx; rfl) (by unfold maxLen; omega) (by omega) (by simp; omega) ?_; intro v' w3 hown' hgrow3 hnil3; have hbel3 := (hbel.alloc hszw (.cells #[.string s] 9)).grown hgrow3 (by simp; omega) (fun q hq => (hown.lt q hq).1); clear hgrow3 hnil3; obtain ⟨g3, c3, hv3⟩ := own_shape hown' (Nat.succ_pos _); subst hv3)
            go_ret2
            exact ⟨_, rfl, parsed_done HS.out HL.out hown', hbel3⟩
    · have hd := HA.out.two htwo
      have hw := word_is _ hd
      generalize hs : ss.getD k ByteArray.empty = s at hd hw hpl
      have HS : Hid (ss.getD k ByteArray.empty = s) := hs
      have HD : Hid (J.data.toList.drop p = s.data.toList ++ ([32, 111, 114, 32] ++ txt ((bs ss).drop (k + 1)))) := hd
      obtain ⟨hs1, hlen, hby⟩ := word_bytes hd hpl hpJ
      rw [List.length_append] at hlen
      simp only [List.length_cons, List.length_nil] at hlen
      have hne : (((p : Int) + (s.size : Int)) == (p : Int)) = false := beq_eq_false_iff_ne.2 (by omega)
      have hszw := hbel.size
      have hend : (((p : Int) + (s.size : Int)) == (J.size : Int)) = false := beq_eq_false_iff_ne.2 (by omega)
      have hle : p + s.size + 4 ≤ J.size := by omega
      have hlt0 : p + s.size < J.size := by omega
      have hlf : l = false := by rw [hl]; exact decide_eq_false (by omega)
      subst hlf
      have hb0 : J[p + s.size] = 32 := by
        have := at_rest hd 0 32 rfl (by rw [← Lib.size_eq]; omega)
        simp only [← Lib.size_eq] at this
        exact this
      have b1 : ((J[p + s.size].toNat : Int) != 44) = true := by rw [hb0]; rfl
      have b2 : ((J[p + s.size].toNat : Int) != 32) = false := by rw [hb0]; rfl
      have b3 : ((J[p + s.size].toNat : Int) == 44) = false := by rw [hb0]; rfl
      clear hb0
      have HN : Hid (∀ (v' : Value) (w3 : World), w3.ownsRow w.heap.size 9 1 v' (k + 1) ((ss.take k).map Value.string ++ [.string s]) → Below w.heap.size w w3 → AtWord w J ss (k + 1) (p + s.size + 4) v' true w3) :=
        fun v' w3 ho hb => HA.out.next [32, 111, 114, 32] HS.out HD.out (by omega) (by rw [decide_eq_true htwo]) ho hb
      have hsub : J.extract (p + s.size) (p + s.size + 4) = ⟨#[32, 111, 114, 32]⟩ := by
        have := sub_is [32, 111, 114, 32] hd
        rw [← Lib.size_eq] at this
        exact this
      clear hs hd hdrop hpl hl hlen
      go_wp2
      go_loop [5] (fun i => ∃ t : Nat, t ≤ s.size ∧ i = .int .i64 ((p + t : Nat) : Int)) (fun i => J.size + 1 - (intOf i).toNat)
      case atStart => exact ⟨0, Nat.zero_le _, by simp⟩
      case round =>
        obtain ⟨t, ht, rfl⟩ := hrel
        by_cases hlt : t < s.size
        · obtain ⟨hi, c1, c2⟩ := hby t hlt
          clear hby
          go_wp2
          go_round
          case rel => first | exact ⟨t + 1, by omega, by go_num⟩ | (refine ⟨trivial, ?_⟩; (repeat apply Exists.intro); refine ⟨⟨t + 1, by omega, ?_⟩, rfl⟩; go_num)
          case measure => simp [intOf]; omega
        · obtain rfl : t = s.size := by omega
          clear hby
          go_wp2_with (at_builtin; refine wpList_append_own _ rfl _ _ 25 rfl w.heap.size 9 i0 (.string ByteArray.empty) 1 16 Try.underlying25 hi hz0 hz1 hz2 rfl (by decide) _ _ _ rfl (hown.alloc _) ⟨wr.heap.size, 0, none⟩ 1 1 [.string s] rfl rfl (cell_one_new _ _ _) (fun x hx => by simp at hx; subst hx; rfl) (by unfold maxLen; omega) (by omega) (by simp; omega) ?_; intro v' w3 hown' hgrow3 hnil3; have hbel3 := (hbel.alloc hszw (.cells #[.string s] 9)).grown hgrow3 (by simp; omega) (fun q hq => (hown.lt q hq).1); clear hgrow3 hnil3; obtain ⟨g3, c3, hv3⟩ := own_shape hown' (Nat.succ_pos _); subst hv3)
          go_roundw
          case rel => exact ⟨k + 1, p + s.size + 4, some ⟨g3, 0, none⟩, c3, true, rfl, by go_num, rfl, HN.out _ _ hown' hbel3⟩
          case measure => simp [intOf]; omega
    · have hd := HA.out.more hmore
      have hw := word_is _ hd
      generalize hs : ss.getD k ByteArray.empty = s at hd hw hpl
      have HS : Hid (ss.getD k ByteArray.empty = s) := hs
      have HD : Hid (J.data.toList.drop p = s.data.toList ++ ([44, 32] ++ txt ((bs ss).drop (k + 1)))) := hd
      obtain ⟨hs1, hlen, hby⟩ := word_bytes hd hpl hpJ
      rw [List.length_append] at hlen
      simp only [List.length_cons, List.length_nil] at hlen
      have hne : (((p : Int) + (s.size : Int)) == (p : Int)) = false := beq_eq_false_iff_ne.2 (by omega)
      have hszw := hbel.size
      have hend : (((p : Int) + (s.size : Int)) == (J.size : Int)) = false := beq_eq_false_iff_ne.2 (by omega)
      have hle : p + s.size + 2 ≤ J.size := by omega
      have hlt0 : p + s.size < J.size := by omega
      have hlf : l = false := by rw [hl]; exact decide_eq_false (by omega)
      subst hlf
      have hb0 : J[p + s.size] = 44 := by
        have := at_rest hd 0 44 rfl (by rw [← Lib.size_eq]; omega)
        simp only [← Lib.size_eq] at this
        exact this
      have b1 : ((J[p + s.size].toNat : Int) != 44) = false := by rw [hb0]; rfl
      have b3 : ((J[p + s.size].toNat : Int) == 44) = true := by rw [hb0]; rfl
      clear hb0
      have HN : Hid (∀ (v' : Value) (w3 : World), w3.ownsRow w.heap.size 9 1 v' (k + 1) ((ss.take k).map Value.string ++ [.string s]) → Below w.heap.size w w3 → AtWord w J ss (k + 1) (p + s.size + 2) v' false w3) :=
        fun v' w3 ho hb => HA.out.next [44, 32] HS.out HD.out (by omega) ((decide_eq_false (by omega)).symm) ho hb
      have hb1 : J[p + s.size + 1] = 32 := by
        have := at_rest hd 1 32 rfl (by rw [← Lib.size_eq]; omega)
        simp only [← Lib.size_eq] at this
        exact this
      have b4 : ((J[p + s.size + 1].toNat : Int) != 32) = false := by rw [hb1]; rfl
      clear hb1
      clear hs hd hdrop hpl hl hlen
      go_wp2
      go_loop [5] (fun i => ∃ t : Nat, t ≤ s.size ∧ i = .int .i64 ((p + t : Nat) : Int)) (fun i => J.size + 1 - (intOf i).toNat)
      case atStart => exact ⟨0, Nat.zero_le _, by simp⟩
      case round =>
        obtain ⟨t, ht, rfl⟩ := hrel
        by_cases hlt : t < s.size
        · obtain ⟨hi, c1, c2⟩ := hby t hlt
          clear hby
          go_wp2
          go_round
          case rel => first | exact ⟨t + 1, by omega, by go_num⟩ | (refine ⟨trivial, ?_⟩; (repeat apply Exists.intro); refine ⟨⟨t + 1, by omega, ?_⟩, rfl⟩; go_num)
          case measure => simp [intOf]; omega
        · obtain rfl : t = s.size := by omega
          clear hby
          go_wp2_with (at_builtin; refine wpList_append_own _ rfl _ _ 25 rfl w.heap.size 9 i0 (.string ByteArray.empty) 1 16 Try.underlying25 hi hz0 hz1 hz2 rfl (by decide) _ _ _ rfl (hown.alloc _) ⟨wr.heap.size, 0, none⟩ 1 1 [.string s] rfl rfl (cell_one_new _ _ _) (fun x hx => by simp at hx; subst hx; rfl) (by unfold maxLen; omega) (by omega) (by simp; omega) ?_; intro v' w3 hown' hgrow3 hnil3; have hbel3 := (hbel.alloc hszw (.cells #[.string s] 9)).grown hgrow3 (by simp; omega) (fun q hq => (hown.lt q hq).1); clear hgrow3 hnil3; obtain ⟨g3, c3, hv3⟩ := own_shape hown' (Nat.succ_pos _); subst hv3)
          go_roundw
          case rel => exact ⟨k + 1, p + s.size + 2, some ⟨g3, 0, none⟩, c3, false, rfl, by go_num, rfl, HN.out _ _ hown' hbel3⟩
          case measure => simp [intOf]; omega

/-- zzParseList reads back what listKinds wrote of plain words. -/
theorem parse (J : ByteArray) (ss : List ByteArray) (w : World) (hJ : J.data.toList = lk (bs ss)) (hJs : J.size ≤ 8388608) (hn : ss.length ≤ 1048576) (hp : ∀ s ∈ ss, plain s.data.toList) :
    Calls Try.prog 18 #[.string J] w (Parsed w ss) := by
  cases ss with
  | nil =>
    have hJ0 : J = ⟨#[]⟩ := by
      rw [← Lib.mk_data J, hJ]; rfl
    subst hJ0
    exact parse_none w
  | cons s r =>
    refine parse_some J (s :: r) w hJ hJs (by simp) hn hp ?_
    have hs := hp s (by simp)
    have hl := congrArg List.length hJ
    rw [← Lib.size_eq, lk_txt] at hl
    have : 1 ≤ (txt (bs (s :: r))).length := by
      show 1 ≤ (txt (s.data.toList :: bs r)).length
      rw [txt, List.length_append]
      have : s.data.toList.length ≠ 0 := fun h => hs.1 (List.length_eq_zero_iff.1 h)
      omega
    omega
end Go.Proofs.Qxb6002457a

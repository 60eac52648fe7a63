/-
  Seat b6602465aD: trimZeros (20), ZZTrimZeros (9), the law FnTrimZerosExactCharacterisation (3).
-/
import Derived.Test.Qxb6602465aDoorBase
import Derived.Test.Qxb6602465aDoorShelf
namespace Go.Proofs.Qxb6602465aDoor
open Go.RowKit

theorem index_dot (l : List UInt8) : decide (0 ≤ Lib.indexByte l 46) = dot l := by
  unfold dot
  induction l with
  | nil => rfl
  | cons b l ih =>
    unfold Lib.indexByte
    rw [List.contains_cons]
    by_cases h : b = 46
    · subst h; rfl
    · have e1 : (b == 46) = false := beq_eq_false_iff_ne.2 h
      have e2 : ((46 : UInt8) == b) = false := beq_eq_false_iff_ne.2 (Ne.symm h)
      rw [e1, e2, Bool.false_or, ← ih]
      have hge : -1 ≤ Lib.indexByte l 46 := by
        clear ih
        induction l with
        | nil => exact Int.le_refl _
        | cons c l ih => unfold Lib.indexByte; split <;> (try split) <;> omega
      by_cases hm : Lib.indexByte l 46 = -1
      · rw [hm]; rfl
      · rw [if_neg (by simp), if_neg (by simpa using hm)]
        simp only [decide_eq_decide]
        omega

def tz (l : List UInt8) : List UInt8 := Lib.trimSuffix (Lib.trimRightB l 48) [46]

theorem right_split (l : List UInt8) : ∃ z, l = Lib.trimRightB l 48 ++ z ∧ allZ z = true := by
  refine ⟨(l.reverse.takeWhile (· == 48)).reverse, ?_, ?_⟩
  · unfold Lib.trimRightB
    rw [← List.reverse_append, List.takeWhile_append_dropWhile, List.reverse_reverse]
  · unfold allZ
    rw [List.all_reverse]
    exact List.all_takeWhile
theorem right_last (l : List UInt8) (u : List UInt8) (b : UInt8) (h : Lib.trimRightB l 48 = u ++ [b]) : b ≠ 48 := by
  unfold Lib.trimRightB at h
  have h2 : l.reverse.dropWhile (· == 48) = b :: u.reverse := by
    have := congrArg List.reverse h
    simpa using this
  have h3 := List.head?_dropWhile_not (· == 48) l.reverse
  rw [h2] at h3
  simpa using h3

theorem tz_cases (l : List UInt8) (h : dot l = true) :
    (∃ u z, tz l = u ∧ l = u ++ 46 :: z ∧ allZ z = true) ∨ (∃ u b z, tz l = u ++ [b] ∧ l = u ++ [b] ++ z ∧ allZ z = true ∧ b ≠ 48 ∧ b ≠ 46) := by
  obtain ⟨z, hl, hz⟩ := right_split l
  unfold tz
  have hne : Lib.trimRightB l 48 ≠ [] := fun e => by
    rw [e, List.nil_append] at hl
    unfold dot at h
    rw [List.contains_iff_mem, hl] at h
    have := (allZ_iff z).1 hz
    obtain ⟨j, hj⟩ := List.getElem?_of_mem h
    have := this j 46 hj
    cases this
  have hla := right_last l
  generalize Lib.trimRightB l 48 = t at *
  rcases List.eq_nil_or_concat t with rfl | ⟨u, b, rfl⟩
  · exact absurd rfl hne
  · rw [List.concat_eq_append] at *
    by_cases hb : b = 46
    · subst hb
      refine .inl ⟨u, z, ?_, by rw [hl]; simp, hz⟩
      unfold Lib.trimSuffix Lib.hasSuffix
      rw [if_pos (by simp)]
      simp
    · refine .inr ⟨u, b, z, ?_, hl, hz, hla u b rfl, hb⟩
      unfold Lib.trimSuffix Lib.hasSuffix
      rw [if_neg]
      intro hh
      rw [List.isSuffixOf_iff_suffix] at hh
      obtain ⟨x, hx⟩ := hh
      have := congrArg List.getLast? hx
      simp at this
      exact hb this.symm

theorem trimRight_le (l : List UInt8) : (Lib.trimRightB l 48).length ≤ l.length := by
  obtain ⟨z, hl, _⟩ := right_split l
  have := congrArg List.length hl
  rw [List.length_append] at this
  omega

set_option maxHeartbeats 400000 in
theorem trim_no (s : ByteArray) (w : World) (hd : dot s.data.toList = false) : Calls Tryd.prog 9 #[.string s] w fun e w' => e = .returned (.string s) ∧ w' = w := by
  have h20 : Calls Tryd.prog 20 #[.string s] w fun e w' => e = .returned (.string s) ∧ w' = w := by
    go_enter Tryd.func20, Tryd.ntmps20
    go_wp2_with fail
    refine (Tryd.strings_Contains_one s 46 _).mono ?_
    rintro e w1 ⟨rfl, hw1⟩
    subst hw1
    rw [index_dot, hd]
    go_wp2_with fail
    go_ret
    exact ⟨rfl, rfl⟩
  go_enter Tryd.func9, Tryd.ntmps9
  go_wp2_with fail
  refine h20.mono ?_
  rintro e w1 ⟨rfl, hw1⟩
  subst hw1
  go_wp2_with fail
  go_ret
  exact ⟨rfl, rfl⟩

set_option maxHeartbeats 400000 in
theorem trim_yes (s : ByteArray) (w : World) (hs : s.size ≤ 1048576) (hd : dot s.data.toList = true) : Calls Tryd.prog 9 #[.string s] w fun e w' => e = .returned (.string ⟨(tz s.data.toList).toArray⟩) ∧ w' = w := by
  have hle := trimRight_le s.data.toList
  rw [← Lib.size_eq] at hle
  have h20 : Calls Tryd.prog 20 #[.string s] w fun e w' => e = .returned (.string ⟨(tz s.data.toList).toArray⟩) ∧ w' = w := by
    go_enter Tryd.func20, Tryd.ntmps20
    go_wp2_with fail
    refine (Tryd.strings_Contains_one s 46 _).mono ?_
    rintro e w1 ⟨rfl, hw1⟩
    subst hw1
    rw [index_dot, hd]
    go_wp2_with fail
    refine (Tryd.strings_TrimRight_one s 48 (by decide) _ (by omega)).mono ?_
    rintro e w2 ⟨rfl, hw2⟩
    subst hw2
    go_wp2_with fail
    refine (Tryd.strings_TrimSuffix ⟨(Lib.trimRightB s.data.toList 48).toArray⟩ ⟨#[46]⟩ _ (by rw [Lib.size_mk]; omega)).mono ?_
    rintro e w3 ⟨rfl, hw3⟩
    subst hw3
    go_wp2_with fail
    go_ret
    exact ⟨rfl, rfl⟩
  go_enter Tryd.func9, Tryd.ntmps9
  go_wp2_with fail
  refine h20.mono ?_
  rintro e w1 ⟨rfl, hw1⟩
  subst hw1
  go_wp2_with fail
  go_ret
  exact ⟨rfl, rfl⟩

set_option maxHeartbeats 400000 in
theorem law3_no (s : ByteArray) (w : World) (hs : s.size ≤ 1048576) (hd : dot s.data.toList = false) : Calls Tryd.prog 3 #[.string s] w fun e w' => e = .returned (.bool true) ∧ w' = w := by
  go_enter Tryd.func3, Tryd.ntmps3
  go_wp2_with fail
  refine (bytes8 s _).mono ?_
  rintro e w1 ⟨rfl, hw1⟩
  subst hw1
  rw [decide_eq_true hs]
  go_wp2_with fail
  refine (trim_no s _ hd).mono ?_
  rintro e w2 ⟨rfl, hw2⟩
  subst hw2
  go_wp2_with fail
  refine (hasDot s _ hs).mono ?_
  rintro e w3 ⟨rfl, hw3⟩
  subst hw3
  rw [hd]
  go_wp2_with fail
  go_ret
  exact ⟨by simp, rfl⟩

theorem ret_yes {b : Bool} (h : b = true) : Ending.returned (.bool b) = .returned (.bool true) := by rw [h]

/-- The call's middle, where the text has a point: r is what came back, q the rest. -/
structure Cut (s r q : ByteArray) : Prop where
  le : r.size ≤ s.size
  pre : s.extract 0 r.size = r
  rest : s.extract r.size s.size = q
  size : q.size = s.size - r.size

theorem cut_of (u v : List UInt8) (s : ByteArray) (h : s.data.toList = u ++ v) : Cut s ⟨u.toArray⟩ ⟨v.toArray⟩ := by
  have hs : s = ⟨(u ++ v).toArray⟩ := by rw [← h, Lib.mk_data]
  subst hs
  refine ⟨?_, ?_, ?_, ?_⟩
  · rw [Lib.size_mk, Lib.size_mk, List.length_append]; omega
  · rw [Lib.size_mk, Lib.extract_mk]; simp
  · rw [Lib.size_mk, Lib.size_mk, Lib.extract_mk]; simp
  · rw [Lib.size_mk, Lib.size_mk, Lib.size_mk, List.length_append]; omega

set_option maxHeartbeats 1000000 in
theorem law3_point (s r q : ByteArray) (w : World) (hs : s.size ≤ 1048576) (hd : dot s.data.toList = true) (hr : (⟨(tz s.data.toList).toArray⟩ : ByteArray) = r) (hc : Cut s r q)
    (h0 : 0 < q.size) (h46 : q[0] = 46) (q' : ByteArray) (hx : q.extract 1 (s.size - r.size) = q') (hq : q'.size ≤ 1048576) (hz : allZ q'.data.toList = true) :
    Calls Tryd.prog 3 #[.string s] w fun e w' => e = .returned (.bool true) ∧ w' = w := by
  have HY : Hid (∀ W, Calls Tryd.prog 9 #[.string s] W fun e w' => e = .returned (.string r) ∧ w' = W) := fun W => by rw [← hr]; exact trim_yes s W hs hd
  have HH : Hid (∀ W, Calls Tryd.prog 10 #[.string s] W fun e w' => e = .returned (.bool true) ∧ w' = W) := fun W => by rw [← hd]; exact hasDot s W hs
  have HB : Hid (∀ W, Calls Tryd.prog 8 #[.string s] W fun e w' => e = .returned (.bool true) ∧ w' = W) := fun W => (bytes8 s W).mono fun e w' h => by rw [decide_eq_true hs] at h; exact h
  obtain ⟨hle, hpre, hrest, hsz⟩ := hc
  have HZ : Hid (∀ W, Calls Tryd.prog 11 #[.string q'] W fun e w' => e = .returned (.bool true) ∧ w' = W) := fun W => by
    rw [← hz]
    exact allZero _ W hq
  have t := tst_yes h46 46 rfl
  clear hr hz hd h46
  go_enter Tryd.func3, Tryd.ntmps3
  go_wp2_with fail
  refine (HB.out _).mono ?_
  rintro e w1 ⟨rfl, hw1⟩
  subst hw1
  go_wp2_with fail
  refine (HY.out _).mono ?_
  rintro e w2 ⟨rfl, hw2⟩
  subst hw2
  go_wp2_with fail
  refine (HH.out _).mono ?_
  rintro e w3 ⟨rfl, hw3⟩
  subst hw3
  go_wp2_with fail
  refine (HZ.out _).mono ?_
  rintro e w4 ⟨rfl, hw4⟩
  subst hw4
  go_wp2_with fail
  go_ret
  exact ⟨rfl, rfl⟩

set_option maxHeartbeats 1000000 in
theorem law3_plain (s r q : ByteArray) (w : World) (hs : s.size ≤ 1048576) (hd : dot s.data.toList = true) (hr : (⟨(tz s.data.toList).toArray⟩ : ByteArray) = r) (hc : Cut s r q)
    (h0 : 0 < r.size) (h48 : r[r.size - 1] ≠ 48) (h46 : r[r.size - 1] ≠ 46) (hz : allZ q.data.toList = true) (hq : ∀ h : 0 < q.size, q[0] ≠ 46) :
    Calls Tryd.prog 3 #[.string s] w fun e w' => e = .returned (.bool true) ∧ w' = w := by
  have HY : Hid (∀ W, Calls Tryd.prog 9 #[.string s] W fun e w' => e = .returned (.string r) ∧ w' = W) := fun W => by rw [← hr]; exact trim_yes s W hs hd
  have HH : Hid (∀ W, Calls Tryd.prog 10 #[.string s] W fun e w' => e = .returned (.bool true) ∧ w' = W) := fun W => by rw [← hd]; exact hasDot s W hs
  have HB : Hid (∀ W, Calls Tryd.prog 8 #[.string s] W fun e w' => e = .returned (.bool true) ∧ w' = W) := fun W => (bytes8 s W).mono fun e w' h => by rw [decide_eq_true hs] at h; exact h
  obtain ⟨hle, hpre, hrest, hsz⟩ := hc
  have HZ : Hid (∀ W, Calls Tryd.prog 11 #[.string q] W fun e w' => e = .returned (.bool true) ∧ w' = W) := fun W => by
    rw [← hz]
    exact allZero _ W (by omega)
  have t8 := tst_no h48 48 rfl
  have t6 := tst_no h46 46 rfl
  have n8 : ¬ ((r[r.size - 1].toNat : Int) = 48) := fun e => by rw [e] at t8; cases t8
  have n6 : ¬ ((r[r.size - 1].toNat : Int) = 46) := fun e => by rw [e] at t6; cases t6
  have HR : Hid (((r[r.size - 1].toNat : Int) != 48 && (r[r.size - 1].toNat : Int) != 46) = true) := by
    show _ = true
    simp only [bne, t8, t6]
    rfl
  have hi : (r.size : Int) - 1 = ((r.size - 1 : Nat) : Int) := by omega
  clear hr hz hd h46 h48
  by_cases hq0 : 0 < q.size
  · have t := tst_no (hq hq0) 46 rfl
    clear hq
    go_enter Tryd.func3, Tryd.ntmps3
    go_wp2_with fail
    refine (HB.out _).mono ?_
    rintro e w1 ⟨rfl, hw1⟩
    subst hw1
    go_wp2_with fail
    refine (HY.out _).mono ?_
    rintro e w2 ⟨rfl, hw2⟩
    subst hw2
    go_wp2_with fail
    refine (HH.out _).mono ?_
    rintro e w3 ⟨rfl, hw3⟩
    subst hw3
    go_wp2_with fail
    refine (HZ.out _).mono ?_
    rintro e w4 ⟨rfl, hw4⟩
    subst hw4
    go_wp2_with fail
    go_ret
    exact ⟨ret_yes HR.out, rfl⟩
  · clear hq
    go_enter Tryd.func3, Tryd.ntmps3
    go_wp2_with fail
    refine (HB.out _).mono ?_
    rintro e w1 ⟨rfl, hw1⟩
    subst hw1
    go_wp2_with fail
    refine (HY.out _).mono ?_
    rintro e w2 ⟨rfl, hw2⟩
    subst hw2
    go_wp2_with fail
    refine (HH.out _).mono ?_
    rintro e w3 ⟨rfl, hw3⟩
    subst hw3
    go_wp2_with fail
    refine (HZ.out _).mono ?_
    rintro e w4 ⟨rfl, hw4⟩
    subst hw4
    go_wp2_with fail
    go_ret
    exact ⟨ret_yes HR.out, rfl⟩

set_option maxHeartbeats 400000 in
theorem law3 (s : ByteArray) (w : World) : Calls Tryd.prog 3 #[.string s] w fun e w' => e = .returned (.bool true) ∧ w' = w := by
  by_cases hs : s.size ≤ 1048576
  · cases hd : dot s.data.toList with
    | false => exact law3_no s w hs hd
    | true =>
      rcases tz_cases _ hd with ⟨u, z, h1, h2, h3⟩ | ⟨u, b, z, h1, h2, h3, h4, h5⟩
      · have hc := cut_of u (46 :: z) s h2
        have hq0 : 0 < (⟨(46 :: z).toArray⟩ : ByteArray).size := by rw [Lib.size_mk]; simp
        refine law3_point s _ _ w hs hd (by rw [h1]) hc hq0 rfl _ rfl ?_ ?_
        · rw [Lib.extract_mk, Lib.size_mk]
          have := hc.size
          rw [Lib.size_mk] at this
          simp only [List.length_take, List.length_drop]
          omega
        · have e := hc.size
          rw [← e, Lib.size_mk, Lib.extract_mk]
          simpa using h3
      · have hc := cut_of (u ++ [b]) z s h2
        have hs1 : (⟨(u ++ [b]).toArray⟩ : ByteArray).size = u.length + 1 := by rw [Lib.size_mk]; simp
        have hl : ∀ h, (⟨(u ++ [b]).toArray⟩ : ByteArray)[(⟨(u ++ [b]).toArray⟩ : ByteArray).size - 1]'h = b := by
          intro h
          have e := Lib.getElem_mk (u ++ [b]) ((⟨(u ++ [b]).toArray⟩ : ByteArray).size - 1) h
          have e2 : (u ++ [b])[(⟨(u ++ [b]).toArray⟩ : ByteArray).size - 1]? = some b := by rw [hs1]; simp
          exact Option.some.inj (e.symm.trans e2)
        refine law3_plain s _ _ w hs hd (by rw [h1]) hc (by omega) (by rw [hl]; exact h4) (by rw [hl]; exact h5) h3 ?_
        intro h e
        have e2 := Lib.getElem_mk z 0 h
        rw [e] at e2
        have := (allZ_iff z).1 h3 0 46 e2
        cases this
  · go_enter Tryd.func3, Tryd.ntmps3
    go_wp2_with fail
    refine (bytes8 s _).mono ?_
    rintro e w1 ⟨rfl, hw1⟩
    subst hw1
    rw [decide_eq_false hs]
    go_wp2
    go_ret
    exact ⟨rfl, rfl⟩
end Go.Proofs.Qxb6602465aDoor

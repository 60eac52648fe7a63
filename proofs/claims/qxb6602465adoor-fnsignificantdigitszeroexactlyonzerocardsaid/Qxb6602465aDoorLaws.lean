/-
  Seat b6602465aD: the laws FnSignificantDigitsExact (5) and FnSignificantDigitsZeroExactlyOnZero (7).
-/
import Derived.Test.Qxb6602465aDoorSd
import Derived.Deep.DeepCutAuto
import Derived.Deep.CutBlock
namespace Go.Proofs.Qxb6602465aDoor
open Go.RowKit

theorem sd_le (l : List UInt8) : sd l ≤ l.length := trim_le l
theorem sd_zero (l : List UInt8) : sd l = 0 ↔ allZ l = true := by
  unfold sd allZ Lib.trimLeftB
  rw [List.length_eq_zero_iff]
  induction l with
  | nil => simp
  | cons b l ih =>
    rw [List.dropWhile_cons, List.all_cons]
    by_cases h : (b == 48) = true
    · rw [if_pos h, h, Bool.true_and]; exact ih
    · rw [if_neg h]; simp [h]
theorem ret_dec {p : Prop} [Decidable p] (h : p) : Ending.returned (.bool (decide p)) = .returned (.bool true) := by rw [decide_eq_true h]
theorem allZ_append (a b : List UInt8) : allZ (a ++ b) = (allZ a && allZ b) := by unfold allZ; rw [List.all_append]
theorem sd_lead (l : List UInt8) (k : Nat) (hk : k ≤ l.length) (h1 : ∀ (j : Nat) b, j < k → l[j]? = some b → b = 48) (h2 : ∀ b, l[k]? = some b → b ≠ 48) : sd l = l.length - k := by
  unfold sd; rw [Lib.trimLeftB_drop l 48 k hk h1 h2, List.length_drop]
theorem size_append (s t : ByteArray) : (s.data.toList ++ t.data.toList).length = s.size + t.size := by rw [List.length_append, ← Lib.size_eq, ← Lib.size_eq]

set_option maxHeartbeats 1000000 in
theorem zero_short (n : Bool) (s t : ByteArray) (i : Int) (w : World) (hs : s.size + t.size ≤ 1048576) (h1 : s.size ≤ 524288) (h2 : t.size ≤ 524288) :
    Calls Tryd.prog 7 #[.bool n, .string s, .string t, .int .i64 i] w fun e w' => e = .returned (.bool true) ∧ Below w.heap.size w w' := by
  have hle := sd_le (s.data.toList ++ t.data.toList)
  have hz := sd_zero (s.data.toList ++ t.data.toList)
  rw [size_append] at hle
  rw [allZ_append] at hz
  have HZ : Hid (sd (s.data.toList ++ t.data.toList) = 0 ↔ (allZ s.data.toList && allZ t.data.toList) = true) := hz
  have HB : Hid (∀ W, Calls Tryd.prog 19 #[.bool n, .string s, .string t, .int .i64 i] W fun e w' => e = .returned (.bool true) ∧ w' = W) := fun W => (bytes19 n s t i W).mono fun e w' h => by rw [decide_eq_true hs] at h; exact h
  have H16 : Hid (∀ W, Calls Tryd.prog 16 #[.agg #[.bool n, .string s, .string t, .int .i64 i]] W fun e w' => e = .returned (.int .i64 (sd (s.data.toList ++ t.data.toList))) ∧ Below W.heap.size W w') := fun W => zzsig n s t i W hs
  have HA1 : Hid (∀ W, Calls Tryd.prog 11 #[.string s] W fun e w' => e = .returned (.bool (allZ s.data.toList)) ∧ w' = W) := fun W => allZero s W (by omega)
  have HA2 : Hid (∀ W, Calls Tryd.prog 11 #[.string t] W fun e w' => e = .returned (.bool (allZ t.data.toList)) ∧ w' = W) := fun W => allZero t W (by omega)
  clear hz
  generalize sd (s.data.toList ++ t.data.toList) = m at *
  generalize allZ s.data.toList = z1 at *
  generalize allZ t.data.toList = z2 at *
  go_enter Tryd.func7, Tryd.ntmps7
  go_wp2_with fail
  refine (HB.out _).mono ?_
  rintro e w1 ⟨rfl, hw1⟩
  subst hw1
  go_wp2_with fail
  refine (newNumber n s t i _).mono ?_
  rintro e w2 ⟨rfl, hb2⟩
  go_wp2_with fail
  refine (H16.out _).mono ?_
  rintro e w3 ⟨rfl, hb3⟩
  have HB3 : Hid (Below w1.heap.size w1 w3) := hb2.trans (hb3.mono hb2.size)
  clear hb2 hb3
  go_wp2_with fail
  refine (HA1.out _).mono ?_
  rintro e w4 ⟨rfl, hw4⟩
  rw [hw4]
  cases z1 with
  | false =>
    have hm : 1 ≤ m := by
      have : ¬ m = 0 := fun e => by have := HZ.out.1 e; simp at this
      omega
    have hm2 : ((m : Int) == 0) = false := beq_eq_false_iff_ne.2 (by omega)
    go_wp2_with fail
    go_ret
    exact ⟨ret_dec (by omega), HB3.out⟩
  | true =>
    go_wp2_with fail
    refine (HA2.out _).mono ?_
    rintro e w5 ⟨rfl, hw5⟩
    rw [hw5]
    cases z2 with
    | false =>
      have hm : 1 ≤ m := by
        have : ¬ m = 0 := fun e => by have := HZ.out.1 e; simp at this
        omega
      have hm2 : ((m : Int) == 0) = false := beq_eq_false_iff_ne.2 (by omega)
      go_wp2_with fail
      go_ret
      exact ⟨ret_dec (by omega), HB3.out⟩
    | true =>
      obtain rfl : m = 0 := HZ.out.2 rfl
      go_wp2_with fail
      go_ret
      exact ⟨rfl, HB3.out⟩

set_option maxHeartbeats 1000000 in
theorem zero_law (n : Bool) (s t : ByteArray) (i : Int) (w : World) :
    Calls Tryd.prog 7 #[.bool n, .string s, .string t, .int .i64 i] w fun e w' => e = .returned (.bool true) ∧ Below w.heap.size w w' := by
  by_cases hs : s.size + t.size ≤ 1048576
  · by_cases h1 : s.size ≤ 524288
    · by_cases h2 : t.size ≤ 524288
      · exact zero_short n s t i w hs h1 h2
      · go_enter Tryd.func7, Tryd.ntmps7
        go_wp2_with fail
        refine (bytes19 n s t i _).mono ?_
        rintro e w1 ⟨rfl, hw1⟩
        subst hw1
        rw [decide_eq_true hs]
        go_wp2
        go_ret
        exact ⟨rfl, Below.refl _ _⟩
    · go_enter Tryd.func7, Tryd.ntmps7
      go_wp2_with fail
      refine (bytes19 n s t i _).mono ?_
      rintro e w1 ⟨rfl, hw1⟩
      subst hw1
      rw [decide_eq_true hs]
      go_wp2
      go_ret
      exact ⟨rfl, Below.refl _ _⟩
  · go_enter Tryd.func7, Tryd.ntmps7
    go_wp2_with fail
    refine (bytes19 n s t i _).mono ?_
    rintro e w1 ⟨rfl, hw1⟩
    subst hw1
    rw [decide_eq_false hs]
    go_wp2
    go_ret
    exact ⟨rfl, Below.refl _ _⟩

set_option maxHeartbeats 1000000 in
theorem exact_short (n : Bool) (s t : ByteArray) (i : Int) (w : World) (hs : s.size + t.size ≤ 1048576) (h1 : s.size ≤ 524288) (h2 : t.size ≤ 524288) :
    Calls Tryd.prog 5 #[.bool n, .string s, .string t, .int .i64 i] w fun e w' => e = .returned (.bool true) ∧ Below w.heap.size w w' := by
  have HL : Hid (_ = _) := size_append s t
  have HD : Hid (∀ k, _ → _ → _ → _) := sd_lead (s.data.toList ++ t.data.toList)
  have HB : Hid (∀ W, Calls Tryd.prog 14 #[.bool n, .string s, .string t, .int .i64 i] W fun e w' => e = .returned (.bool true) ∧ w' = W) := fun W => (bytes14 n s t i W).mono fun e w' h => by rw [decide_eq_true hs] at h; exact h
  have H16 : Hid (∀ W, Calls Tryd.prog 16 #[.agg #[.bool n, .string s, .string t, .int .i64 i]] W fun e w' => e = .returned (.int .i64 (sd (s.data.toList ++ t.data.toList))) ∧ Below W.heap.size W w') := fun W => zzsig n s t i W hs
  have HA : Hid (∀ (k : Nat) (_ : k < s.size + t.size) W, Calls Tryd.prog 15 #[.string s, .string t, .int .i64 k] W fun e w' => (∃ b : UInt8, e = .returned (.int .u8 b.toNat) ∧ (s.data.toList ++ t.data.toList)[k]? = some b) ∧ w' = W) := fun k hk W => byteAt s t k W hs hk
  generalize s.data.toList ++ t.data.toList = l at *
  go_enter Tryd.func5, Tryd.ntmps5
  go_wp2_with fail
  refine (HB.out _).mono ?_
  rintro e w1 ⟨rfl, hw1⟩
  subst hw1
  go_upto_block 0 with fail
  go_cut [10] (fun j wx => ∃ k : Nat, k ≤ s.size + t.size ∧ j = .int .i64 k ∧ w1 = wx ∧ Hid (sd l = l.length - k))
  case first =>
    go_wp2_with fail
    go_loopw [10] (fun j wr => ∃ k : Nat, k ≤ s.size + t.size ∧ j = .int .i64 k ∧ wr = w1 ∧ Hid (∀ (j : Nat) b, j < k → l[j]? = some b → b = 48)) (fun j _ => s.size + t.size - (intOf j).toNat)
    case atStart => exact ⟨0, Nat.zero_le _, rfl, rfl, fun j b hj => by omega⟩
    case round =>
      obtain ⟨k, hk, rfl, hw, hH⟩ := hrel
      subst hw
      by_cases hlt : k < s.size + t.size
      · go_wp2_with fail
        refine (HA.out k hlt _).mono ?_
        rintro e w2 ⟨⟨b, rfl, hb⟩, hw2⟩
        rw [hw2]
        have HBk : Hid (l[k]? = some b) := hb
        clear hb
        by_cases hc : b = 48
        · have HC : Hid (b = 48) := hc
          have ht := tst_yes hc 48 rfl
          clear hc
          go_wp2_with fail
          go_roundw
          case rel =>
            refine ⟨k + 1, hlt, by go_num, by trivial, fun j b' hj hb => ?_⟩
            by_cases e : j = k
            · subst e
              rw [HBk.out] at hb
              cases hb
              exact HC.out
            · exact hH.out j b' (by omega) hb
          case measure => simp [intOf]; omega
        · have HC : Hid (sd l = l.length - k) := HD.out k (by rw [HL.out]; exact hk) hH.out (fun b' hb => by rw [HBk.out] at hb; cases hb; exact hc)
          have ht := tst_no hc 48 rfl
          clear hc
          go_wp2_with fail
          go_meet
          case rel => exact ⟨k, hk, rfl, rfl, HC⟩
      · have HC : Hid (sd l = l.length - k) := HD.out k (by rw [HL.out]; exact hk) hH.out (fun b' hb => by
          have := (List.getElem?_eq_some_iff.1 hb).1
          rw [HL.out] at this
          omega)
        go_wp2_with fail
        go_meet
        case rel => exact ⟨k, hk, rfl, rfl, HC⟩
  case rest =>
    obtain ⟨k, hk, rfl, rfl, HC⟩ := hcut
    have hsd : sd l = s.size + t.size - k := by rw [HC.out, HL.out]
    rw [hsd] at H16
    clear hsd
    generalize hm : s.size + t.size - k = m at H16
    have hm2 : (s.size : Int) + t.size - k = m := by omega
    go_wp2_with fail
    refine (newNumber n s t i _).mono ?_
    rintro e w2 ⟨rfl, hb2⟩
    go_wp2_with fail
    refine (H16.out _).mono ?_
    rintro e w3 ⟨rfl, hb3⟩
    have HB3 : Hid (Below w1.heap.size w1 w3) := hb2.trans (hb3.mono hb2.size)
    clear hb2 hb3
    go_wp2_with fail
    go_ret
    exact ⟨rfl, HB3.out⟩

set_option maxHeartbeats 1000000 in
theorem exact_law (n : Bool) (s t : ByteArray) (i : Int) (w : World) :
    Calls Tryd.prog 5 #[.bool n, .string s, .string t, .int .i64 i] w fun e w' => e = .returned (.bool true) ∧ Below w.heap.size w w' := by
  by_cases hs : s.size + t.size ≤ 1048576
  · by_cases h1 : s.size ≤ 524288
    · by_cases h2 : t.size ≤ 524288
      · exact exact_short n s t i w hs h1 h2
      · go_enter Tryd.func5, Tryd.ntmps5
        go_wp2_with fail
        refine (bytes14 n s t i _).mono ?_
        rintro e w1 ⟨rfl, hw1⟩
        subst hw1
        rw [decide_eq_true hs]
        go_wp2
        go_ret
        exact ⟨rfl, Below.refl _ _⟩
    · go_enter Tryd.func5, Tryd.ntmps5
      go_wp2_with fail
      refine (bytes14 n s t i _).mono ?_
      rintro e w1 ⟨rfl, hw1⟩
      subst hw1
      rw [decide_eq_true hs]
      go_wp2
      go_ret
      exact ⟨rfl, Below.refl _ _⟩
  · go_enter Tryd.func5, Tryd.ntmps5
    go_wp2_with fail
    refine (bytes14 n s t i _).mono ?_
    rintro e w1 ⟨rfl, hw1⟩
    subst hw1
    rw [decide_eq_false hs]
    go_wp2
    go_ret
    exact ⟨rfl, Below.refl _ _⟩
end Go.Proofs.Qxb6602465aDoor

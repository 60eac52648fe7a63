/-
  Seat b6602465aD: the small functions on the roads: zzBytes (8, 14, 19), zzB1HasDot (10), zzB1AllZero (11), zzB1ByteAt (15).
-/
import Derived.Test.Qxb6602465aDoorProg
import Derived.Lib.TrimByte
import Derived.Lib.Strings
import Derived.WalkKit
import Derived.WalkSpells
import Derived.WalkLawsBesides
namespace Go.Proofs.Qxb6602465aDoor
open Go.RowKit

theorem tst (c v : UInt8) (n : Int) (hn : (v.toNat : Int) = n) : ((c.toNat : Int) == n) = decide (c = v) := by
  rw [Bool.eq_iff_iff]
  simp only [beq_iff_eq, decide_eq_true_eq]
  constructor
  · intro h; exact UInt8.toNat_inj.1 (by omega)
  · intro h; subst h; exact hn
theorem tst_yes {c v : UInt8} (h : c = v) (n : Int) (hn : (v.toNat : Int) = n) : ((c.toNat : Int) == n) = true := by rw [tst c v n hn, h]; simp
theorem tst_no {c v : UInt8} (h : c ≠ v) (n : Int) (hn : (v.toNat : Int) = n) : ((c.toNat : Int) == n) = false := by rw [tst c v n hn]; simp [h]
theorem at_list (s : ByteArray) (k : Nat) (h : k < s.size) : s.data.toList[k]? = some s[k] := by
  rw [List.getElem?_eq_getElem (by rw [← Lib.size_eq]; exact h)]; rfl

def allZ (l : List UInt8) : Bool := l.all (· == 48)
theorem allZ_iff (l : List UInt8) : allZ l = true ↔ ∀ (j : Nat) b, l[j]? = some b → b = 48 := by
  unfold allZ
  rw [List.all_eq_true]
  constructor
  · intro h j b hb
    have := h b (List.mem_of_getElem? hb)
    simpa using this
  · intro h b hb
    obtain ⟨j, hj⟩ := List.getElem?_of_mem hb
    simp [h j b hj]
theorem allZ_no (l : List UInt8) (k : Nat) (b : UInt8) (h : l[k]? = some b) (hb : b ≠ 48) : allZ l = false := by
  rw [Bool.eq_false_iff]
  intro h2
  exact hb ((allZ_iff l).1 h2 k b h)
def dot (l : List UInt8) : Bool := l.contains 46
theorem dot_yes (l : List UInt8) (k : Nat) (h : l[k]? = some 46) : dot l = true := by
  unfold dot; rw [List.contains_iff_mem]; exact List.mem_of_getElem? h
theorem dot_no (l : List UInt8) (h : ∀ (j : Nat) b, l[j]? = some b → b ≠ 46) : dot l = false := by
  unfold dot
  rw [Bool.eq_false_iff]
  intro h2
  rw [List.contains_iff_mem] at h2
  obtain ⟨j, hj⟩ := List.getElem?_of_mem h2
  exact h j _ hj rfl

set_option maxHeartbeats 400000 in
theorem bytes8 (s : ByteArray) (w : World) : Calls Tryd.prog 8 #[.string s] w fun e w' => e = .returned (.bool (decide (s.size ≤ 1048576))) ∧ w' = w := by
  by_cases h : s.size ≤ 1048576
  · go_enter Tryd.func8, Tryd.ntmps8
    go_wp2
    go_ret
    exact ⟨by simp [h], rfl⟩
  · go_enter Tryd.func8, Tryd.ntmps8
    go_wp2
    go_ret
    exact ⟨by simp [h], rfl⟩

set_option maxHeartbeats 400000 in
theorem bytes14 (n : Bool) (s t : ByteArray) (i : Int) (w : World) : Calls Tryd.prog 14 #[.bool n, .string s, .string t, .int .i64 i] w fun e w' => e = .returned (.bool (decide (s.size + t.size ≤ 1048576))) ∧ w' = w := by
  by_cases h : s.size + t.size ≤ 1048576
  · go_enter Tryd.func14, Tryd.ntmps14
    go_wp2
    go_ret
    exact ⟨by simp [h], rfl⟩
  · by_cases h1 : s.size ≤ 1048576
    · by_cases h2 : t.size ≤ 1048576
      · go_enter Tryd.func14, Tryd.ntmps14
        go_wp2
        go_ret
        exact ⟨by simp [h], rfl⟩
      · go_enter Tryd.func14, Tryd.ntmps14
        go_wp2
        go_ret
        exact ⟨by simp [h], rfl⟩
    · go_enter Tryd.func14, Tryd.ntmps14
      go_wp2
      go_ret
      exact ⟨by simp [h], rfl⟩

set_option maxHeartbeats 400000 in
theorem bytes19 (n : Bool) (s t : ByteArray) (i : Int) (w : World) : Calls Tryd.prog 19 #[.bool n, .string s, .string t, .int .i64 i] w fun e w' => e = .returned (.bool (decide (s.size + t.size ≤ 1048576))) ∧ w' = w := by
  by_cases h : s.size + t.size ≤ 1048576
  · go_enter Tryd.func19, Tryd.ntmps19
    go_wp2
    go_ret
    exact ⟨by simp [h], rfl⟩
  · by_cases h1 : s.size ≤ 1048576
    · by_cases h2 : t.size ≤ 1048576
      · go_enter Tryd.func19, Tryd.ntmps19
        go_wp2
        go_ret
        exact ⟨by simp [h], rfl⟩
      · go_enter Tryd.func19, Tryd.ntmps19
        go_wp2
        go_ret
        exact ⟨by simp [h], rfl⟩
    · go_enter Tryd.func19, Tryd.ntmps19
      go_wp2
      go_ret
      exact ⟨by simp [h], rfl⟩

set_option maxHeartbeats 400000 in
theorem hasDot (s : ByteArray) (w : World) (hs : s.size ≤ 1048576) : Calls Tryd.prog 10 #[.string s] w fun e w' => e = .returned (.bool (dot s.data.toList)) ∧ w' = w := by
  go_enter Tryd.func10, Tryd.ntmps10
  go_wp2
  go_loopw [3] (fun i wr => ∃ k : Nat, k ≤ s.size ∧ i = .int .i64 k ∧ wr = w ∧ Hid (∀ (j : Nat) b, j < k → s.data.toList[j]? = some b → b ≠ 46)) (fun i _ => s.size - (intOf i).toNat)
  case atStart => exact ⟨0, Nat.zero_le _, rfl, rfl, fun j b hj => by omega⟩
  case round =>
    obtain ⟨k, hk, rfl, rfl, hH⟩ := hrel
    by_cases hlt : k < s.size
    · have HA : Hid (_ = _) := at_list s k hlt
      by_cases hc : s[k] = 46
      · have HE : Hid (dot s.data.toList = true) := dot_yes _ k (by rw [HA.out, hc])
        have t := tst_yes hc 46 rfl
        clear hc
        go_wp2
        go_ret
        exact ⟨by rw [HE.out]; rfl, rfl⟩
      · have HN : Hid (s[k] ≠ 46) := hc
        have t := tst_no hc 46 rfl
        clear hc
        go_wp2
        go_roundw
        case rel =>
          refine ⟨k + 1, hlt, by go_num, by trivial, fun j b hj hb => ?_⟩
          by_cases e : j = k
          · subst e
            rw [HA.out] at hb
            cases hb
            exact HN.out
          · exact hH.out j b (by omega) hb
        case measure => simp [intOf]; omega
    · have HE : Hid (dot s.data.toList = false) := dot_no _ (fun j b hb => hH.out j b (by
        have := (List.getElem?_eq_some_iff.1 hb).1
        rw [← Lib.size_eq] at this
        omega) hb)
      go_wp2
      go_ret
      exact ⟨by rw [HE.out]; rfl, rfl⟩

set_option maxHeartbeats 400000 in
theorem allZero (s : ByteArray) (w : World) (hs : s.size ≤ 1048576) : Calls Tryd.prog 11 #[.string s] w fun e w' => e = .returned (.bool (allZ s.data.toList)) ∧ w' = w := by
  go_enter Tryd.func11, Tryd.ntmps11
  go_wp2
  go_loopw [3] (fun i wr => ∃ k : Nat, k ≤ s.size ∧ i = .int .i64 k ∧ wr = w ∧ Hid (∀ (j : Nat) b, j < k → s.data.toList[j]? = some b → b = 48)) (fun i _ => s.size - (intOf i).toNat)
  case atStart => exact ⟨0, Nat.zero_le _, rfl, rfl, fun j b hj => by omega⟩
  case round =>
    obtain ⟨k, hk, rfl, rfl, hH⟩ := hrel
    by_cases hlt : k < s.size
    · have HA : Hid (_ = _) := at_list s k hlt
      by_cases hc : s[k] = 48
      · have HN : Hid (s[k] = 48) := hc
        have t := tst_yes hc 48 rfl
        clear hc
        go_wp2
        go_roundw
        case rel =>
          refine ⟨k + 1, hlt, by go_num, by trivial, fun j b hj hb => ?_⟩
          by_cases e : j = k
          · subst e
            rw [HA.out] at hb
            cases hb
            exact HN.out
          · exact hH.out j b (by omega) hb
        case measure => simp [intOf]; omega
      · have HE : Hid (allZ s.data.toList = false) := allZ_no _ k _ HA.out hc
        have t := tst_no hc 48 rfl
        clear hc
        go_wp2
        go_ret
        exact ⟨by rw [HE.out]; rfl, rfl⟩
    · have HE : Hid (allZ s.data.toList = true) := (allZ_iff _).2 (fun j b hb => hH.out j b (by
        have := (List.getElem?_eq_some_iff.1 hb).1
        rw [← Lib.size_eq] at this
        omega) hb)
      go_wp2
      go_ret
      exact ⟨by rw [HE.out]; rfl, rfl⟩

set_option maxHeartbeats 400000 in
theorem byteAt (s t : ByteArray) (k : Nat) (w : World) (hs : s.size + t.size ≤ 1048576) (hk : k < s.size + t.size) :
    Calls Tryd.prog 15 #[.string s, .string t, .int .i64 k] w fun e w' => (∃ b : UInt8, e = .returned (.int .u8 b.toNat) ∧ (s.data.toList ++ t.data.toList)[k]? = some b) ∧ w' = w := by
  by_cases h : k < s.size
  · have HA : Hid (_ = _) := at_list s k h
    have HL : Hid (s.data.toList.length = s.size) := (Lib.size_eq s).symm
    go_enter Tryd.func15, Tryd.ntmps15
    go_wp2
    go_ret
    exact ⟨⟨_, rfl, by rw [List.getElem?_append_left (by rw [HL.out]; exact h), HA.out]⟩, rfl⟩
  · have h2 : k - s.size < t.size := by omega
    have HA : Hid (_ = _) := at_list t (k - s.size) h2
    have HL : Hid (s.data.toList.length = s.size) := (Lib.size_eq s).symm
    have hk2 : (k : Int) - (s.size : Int) = ((k - s.size : Nat) : Int) := by omega
    go_enter Tryd.func15, Tryd.ntmps15
    go_wp2
    go_ret
    exact ⟨⟨_, rfl, by rw [List.getElem?_append_right (by rw [HL.out]; omega), HL.out, HA.out]⟩, rfl⟩

end Go.Proofs.Qxb6602465aDoor

/-
  Seat b6602465aD: ZZNewNumber (17), significantDigits (21), ZZSignificantDigits (16).
-/
import Derived.Test.Qxb6602465aDoorBase
import Derived.Test.Qxb6602465aDoorShelf
namespace Go.Proofs.Qxb6602465aDoor
open Go.RowKit

/-- The plain function: how many digits stand from the first that is no 0. -/
def sd (l : List UInt8) : Nat := (Lib.trimLeftB l 48).length

theorem trim_le (l : List UInt8) : (Lib.trimLeftB l 48).length ≤ l.length := by unfold Lib.trimLeftB; exact (List.dropWhile_sublist _).length_le
theorem sd_some (a b : List UInt8) (h : Lib.trimLeftB a 48 ≠ []) : sd (a ++ b) = (Lib.trimLeftB a 48).length + b.length := by
  unfold sd Lib.trimLeftB at *
  rw [List.dropWhile_append, if_neg (by simpa using h), List.length_append]
theorem sd_none (a b : List UInt8) (h : Lib.trimLeftB a 48 = []) : sd (a ++ b) = (Lib.trimLeftB b 48).length := by
  unfold sd Lib.trimLeftB at *
  rw [List.dropWhile_append, if_pos (by simpa using h)]

set_option maxHeartbeats 400000 in
theorem newNumber (n : Bool) (s t : ByteArray) (i : Int) (w : World) :
    Calls Tryd.prog 17 #[.bool n, .string s, .string t, .int .i64 i] w fun e w' => e = .returned (.agg #[.bool n, .string s, .string t, .int .i64 i]) ∧ Below w.heap.size w w' := by
  go_enter Tryd.func17, Tryd.ntmps17
  go_wp2
  refine bodyPost_ret (v := .agg #[.bool n, .string s, .string t, .int .i64 i]) (by simp [results, Tryd.results17, go_sem]) rfl ⟨rfl, ?_⟩
  exact (Below.refl _ w).alloc (Nat.le_refl _) _

set_option maxHeartbeats 400000 in
theorem sig (n : Bool) (s t : ByteArray) (i : Int) (w : World) (hs : s.size + t.size ≤ 1048576) :
    Calls Tryd.prog 21 #[.agg #[.bool n, .string s, .string t, .int .i64 i]] w fun e w' => e = .returned (.int .i64 (sd (s.data.toList ++ t.data.toList))) ∧ Below w.heap.size w w' := by
  have hl := trim_le s.data.toList
  have hl2 := trim_le t.data.toList
  rw [← Lib.size_eq] at hl hl2
  have HS : Hid (_ → _ = _) := sd_some s.data.toList t.data.toList
  have HN : Hid (_ → _ = _) := sd_none s.data.toList t.data.toList
  go_enter Tryd.func21, Tryd.ntmps21
  go_wp2_with fail
  refine (Tryd.strings_TrimLeft_one s 48 (by decide) _).mono ?_
  rintro e w1 ⟨rfl, hw1⟩
  rw [hw1]
  by_cases he : Lib.trimLeftB s.data.toList 48 = []
  · have HE : Hid (_ = _) := HN.out he
    rw [he]
    clear hl
    go_wp2_with fail
    refine (Tryd.strings_TrimLeft_one t 48 (by decide) _).mono ?_
    rintro e w2 ⟨rfl, hw2⟩
    rw [hw2]
    generalize Lib.trimLeftB t.data.toList 48 = r at *
    go_wp2_with fail
    go_ret
    exact ⟨by rw [HE.out]; rfl, (Below.refl _ w).alloc (Nat.le_refl _) _⟩
  · have HE : Hid (_ = _) := HS.out he
    have hne : (!(Lib.trimLeftB s.data.toList 48).isEmpty) = true := by simpa using he
    have HT : Hid (t.data.toList.length = t.size) := (Lib.size_eq t).symm
    generalize Lib.trimLeftB s.data.toList 48 = r at *
    clear HS HN he
    go_wp2_with fail
    go_ret
    exact ⟨by rw [HE.out, HT.out]; rfl, (Below.refl _ w).alloc (Nat.le_refl _) _⟩

set_option maxHeartbeats 400000 in
theorem zzsig (n : Bool) (s t : ByteArray) (i : Int) (w : World) (hs : s.size + t.size ≤ 1048576) :
    Calls Tryd.prog 16 #[.agg #[.bool n, .string s, .string t, .int .i64 i]] w fun e w' => e = .returned (.int .i64 (sd (s.data.toList ++ t.data.toList))) ∧ Below w.heap.size w w' := by
  go_enter Tryd.func16, Tryd.ntmps16
  go_wp2_with fail
  refine (sig n s t i _ hs).mono ?_
  rintro e w1 ⟨rfl, hw1⟩
  go_wp2_with fail
  go_ret
  exact ⟨rfl, ((Below.refl _ w).alloc (Nat.le_refl _) _).trans (hw1.mono (by simp))⟩
end Go.Proofs.Qxb6602465aDoor

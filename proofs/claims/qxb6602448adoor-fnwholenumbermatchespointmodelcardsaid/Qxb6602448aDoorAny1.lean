/-
  Seat b6602448aD: bytes.IndexAny (15) at a slice of one byte.
-/
import Derived.Test.Qxb6602448aDoorAny
namespace Go.Proofs.Qxb6602448aDoor
open Go.RowKit

theorem ibs (s : ByteArray) (x : UInt8) (w : World) : (callFunc 29 #[.string s, .int .u8 x.toNat]).run Tryd.prog w = .ok (.value (.int .i64 (Lib.indexByte s.data.toList x))) w := by
  rw [run_callFunc_extern Tryd.func29 (by kernel_rfl) (by kernel_rfl) (by kernel_rfl) (e := Extern.BytealgIndexByte.indexByte) (by kernel_rfl), Lib.run_indexByteString]
  simp [Result.andThen]
theorem ixs (s t : ByteArray) (m : Int) (w : World) (hm : w.cell? ⟨0, 0, none⟩ = some (.int .i64 m)) (h2 : 2 ≤ t.size) (hb : (t.size : Int) ≤ m) (hs : s.size < 4294967281) :
    (callFunc 35 #[.string s, .string t]).run Tryd.prog w = .ok (.value (.int .i64 (Lib.index s.data.toList t.data.toList))) w := by
  rw [run_callFunc_extern Tryd.func35 (by kernel_rfl) (by kernel_rfl) (by kernel_rfl) (e := Extern.BytealgIndex.index) (by kernel_rfl), Lib.run_indexString s t w 0 m (by kernel_rfl) hm h2 hb hs]
  simp [Result.andThen]
theorem contains_yes (chars : ByteArray) (x : UInt8) (h : chars.data.toList.contains x = true) : (0 : Int) ≤ Lib.indexByte chars.data.toList x := by
  rw [Lib.contains_iff_indexByte] at h; exact of_decide_eq_true h
theorem contains_no (chars : ByteArray) (x : UInt8) (h : chars.data.toList.contains x = false) : ¬ (0 : Int) ≤ Lib.indexByte chars.data.toList x := by
  rw [Lib.contains_iff_indexByte] at h; exact of_decide_eq_false h

theorem iter_below (w : World) (s : ByteArray) (i : Nat) : Below w.heap.size w (w.iter s i) := (Below.refl _ _).alloc (Nat.le_refl _) _

set_option maxHeartbeats 1000000 in
theorem any_one_high (chars : ByteArray) (b off c : Nat) (x : UInt8) (w : World) (h2 : 2 ≤ chars.size) (ha : Ascii chars) (hx : 128 ≤ x.toNat) (hc : w.cell? ⟨b, off, none⟩ = some (.int .u8 x.toNat)) :
    Calls Tryd.prog 21 #[.slice (some ⟨b, off, none⟩) 1 c, .string chars] w fun e w' => e = .returned (.int .i64 (-1)) ∧ Below w.heap.size w w' := by
  have HA : Hid (Ascii chars) := ha
  have he := chars_nonempty chars h2
  have hx' : (128 : Int) ≤ (x.toNat : Int) := by omega
  have hx2 := c_lt x
  clear ha hx
  go_enter Tryd.func21, Tryd.ntmps21
  go_wp2_with fail
  go_loopg [5] chars.size (fun g r wx => ∃ i : Nat, i + g = chars.size ∧ wx = w.iter chars i)
  case atStart => exact ⟨0, by omega, rfl⟩
  case round =>
    obtain ⟨i, hig, rfl⟩ := hrel
    cases gk with
    | zero =>
      obtain rfl : i = chars.size := by omega
      have hnx := fun ty => run_next_end (P := Tryd.prog) w chars chars.size ty (by omega)
      go_wp2
      go_ret
      exact ⟨rfl, iter_below _ _ _⟩
    | succ g =>
      have hi : i < chars.size := by omega
      obtain ⟨y, hy⟩ : ∃ y : UInt8, chars[i]'hi = y := ⟨_, rfl⟩
      have hy128 : y.toNat < 128 := HA.out i y (by rw [← hy]; exact Lib.data_getElem? chars i hi)
      have hnx := fun ty => run_next_ascii (P := Tryd.prog) w chars i ty hi (by rw [hy]; exact hy128)
      rw [hy] at hnx
      clear hy
      have hne : ((y.toNat : Int) == 65533) = false := beq_eq_false_iff_ne.2 (by omega)
      go_wp2
      go_roundg g
      case measure => omega
      case rel => exact ⟨i + 1, by omega, rfl⟩

set_option maxHeartbeats 1000000 in
theorem any_one_low (chars : ByteArray) (b off c : Nat) (x : UInt8) (w : World) (h2 : 2 ≤ chars.size) (hx : x.toNat < 128) (hc : w.cell? ⟨b, off, none⟩ = some (.int .u8 x.toNat)) :
    Calls Tryd.prog 21 #[.slice (some ⟨b, off, none⟩) 1 c, .string chars] w fun e w' => e = .returned (.int .i64 (if chars.data.toList.contains x then 0 else -1)) ∧ w' = w := by
  have he := chars_nonempty chars h2
  have hx' : ¬ (128 : Int) ≤ (x.toNat : Int) := by omega
  have q := ibs
  cases hin : chars.data.toList.contains x with
  | true =>
    have hix := contains_yes chars x hin
    clear hin
    go_enter Tryd.func21, Tryd.ntmps21
    go_wp2
    go_ret
    exact ⟨rfl, rfl⟩
  | false =>
    have hix := contains_no chars x hin
    clear hin
    go_enter Tryd.func21, Tryd.ntmps21
    go_wp2
    go_ret
    exact ⟨rfl, rfl⟩
end Go.Proofs.Qxb6602448aDoor

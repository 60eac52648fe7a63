/-
  Seat b6602448aD: bytes.IndexAny (15) at an ASCII cutset of two bytes or more, at every slice of bytes that is not empty.
-/
import Derived.Test.Qxb6602448aDoorShelf
import Derived.Test.Qxb6602448aDoorRune
import Derived.Test.Qxb6602448aDoorBase
import Derived.Laws.RangeString
import Derived.Deep.LoopGhost
import Derived.Lib.IndexEntry
import Derived.Lib.Bytealg
namespace Go.Proofs.Qxb6602448aDoor
open Go.RowKit

def Ascii (chars : ByteArray) : Prop := ∀ (j : Nat) b, chars.data.toList[j]? = some b → b.toNat < 128

theorem Tryd.bytes_makeASCIISet (chars : ByteArray) (w : World) (hs : chars.size < 4294967281)
    (hascii : ∀ (j : Nat) b, chars.data.toList[j]? = some b → b.toNat < 128) :
    Calls Tryd.prog 32 #[.string chars] w fun e w' => e = .returned (.tuple #[.agg (Lib.setCells chars.data.toList), .bool true]) ∧ w' = w.alloc (.cells (Lib.setCells chars.data.toList) 52) := Any.bytes_makeASCIISet Tryd.lays11 (fun _ => by kernel_rfl) (by kernel_rfl) chars w hs hascii
theorem Tryd.bytes_asciiSet_contains (b : Nat) (x : UInt8) (v : Bool) (w : World) (hc : w.cell? ⟨b, x.toNat, none⟩ = some (.bool v)) :
    Calls Tryd.prog 33 #[.pointer (some ⟨b, 0, none⟩), .int .u8 x.toNat] w fun e w' => e = .returned (.bool v) ∧ w' = w := Any.bytes_asciiSet_contains Tryd.lays16 b x v w hc

theorem chars_nonempty (chars : ByteArray) (h : 2 ≤ chars.size) : chars.toList.isEmpty = false := by
  rw [Lib.toList_data]
  cases e : chars.data.toList with
  | nil => have := Lib.size_eq chars; rw [e, List.length_nil] at this; omega
  | cons _ _ => rfl

set_option maxHeartbeats 400000 in
theorem shouldSet (n : Int) (w : World) : Calls Tryd.prog 31 #[.int .i64 n] w fun e w' => e = .returned (.bool (decide (8 < n))) ∧ w' = w := by
  go_enter Tryd.func31, Tryd.ntmps31
  go_wp2
  go_ret
  exact ⟨rfl, rfl⟩

theorem zv52 (w : World) : (zeroValue 52).run Tryd.prog w = .ok (.agg (Array.replicate 256 (.bool false))) w := by kernel_rfl
theorem sz52 : (Tryd.prog.info? 52).map (·.size) = some 256 := by kernel_rfl
/-- The set, laid in its own block, then in IndexAny's variable. -/
def setW (w : World) (l : List UInt8) : World := (w.alloc (.cells (Lib.setCells l) 52)).alloc (.cells (Lib.setCells l) 52)
theorem set_cell (w : World) (l : List UInt8) (x : UInt8) : (setW w l).cell? ⟨w.heap.size + 1, x.toNat, none⟩ = some (.bool (l.contains x)) := by
  unfold setW
  rw [World.cell?_alloc_at _ _ _ _ (by simp), Lib.setCells_at]
theorem set_below (w : World) (l : List UInt8) : Below w.heap.size w (setW w l) := ((Below.refl _ _).alloc (Nat.le_refl _) _).alloc (by simp) _
theorem set_store (w : World) (l : List UInt8) : (storeCells ⟨w.heap.size + 1, 0, none⟩ (Lib.setCells l).toList 0).run Tryd.prog ((w.alloc (.cells (Lib.setCells l) 52)).alloc (.cells (Array.replicate 256 (.bool false)) 52)) = .ok () (setW w l) := by
  have := run_storeCells_new (P := Tryd.prog) (w.alloc (.cells (Lib.setCells l) 52)) 52 (Array.replicate 256 (.bool false)) (Lib.setCells l) (by rw [Lib.setCells_size]; exact sz52) (by rw [Lib.setCells_size, Array.size_replicate]) (Lib.setCells_one _)
  simpa [setW] using this

set_option maxHeartbeats 1000000 in
set_option maxRecDepth 1000000 in
theorem any_long (chars : ByteArray) (b off c : Nat) (bs : List UInt8) (w : World) (h2 : 2 ≤ chars.size) (h3 : chars.size ≤ 100) (ha : Ascii chars) (hn : bs.length ≤ 1048576) (h8 : 8 < bs.length) (hc : Row w b off bs) :
    Calls Tryd.prog 21 #[.slice (some ⟨b, off, none⟩) bs.length c, .string chars] w fun e w' => e = .returned (.int .i64 (Lib.indexAny bs chars.data.toList)) ∧ Below w.heap.size w w' := by
  have HC : Hid (Row w b off bs) := hc
  have HA : Hid (Ascii chars) := ha
  have he := chars_nonempty chars h2
  have hn1 : ((chars.size : Int) == 1) = false := beq_eq_false_iff_ne.2 (by omega)
  have hl1 : ((bs.length : Int) == 1) = false := beq_eq_false_iff_ne.2 (by omega)
  have h8d : decide ((8 : Int) < (bs.length : Int)) = true := decide_eq_true (by omega)
  clear hc ha
  go_enter Tryd.func21, Tryd.ntmps21
  go_wp2_with fail
  refine (shouldSet _ _).mono ?_
  rintro e w1 ⟨rfl, hw1⟩
  subst hw1
  rw [h8d]
  go_wp2_with fail
  refine (Tryd.bytes_makeASCIISet chars _ (by omega) HA.out).mono ?_
  rintro e w2 ⟨rfl, hw2⟩
  rw [hw2]
  have hv := zv52
  have hsc := set_store w1 chars.data.toList
  have hsz := Lib.setCells_size chars.data.toList
  go_wp2_with fail
  clear hv hsc hsz hw2
  have HS : Hid (∀ x : UInt8, (setW w1 chars.data.toList).cell? ⟨w1.heap.size + 1, x.toNat, none⟩ = some (.bool (chars.data.toList.contains x))) := set_cell w1 chars.data.toList
  have HB : Hid (Below w1.heap.size w1 (setW w1 chars.data.toList)) := set_below w1 chars.data.toList
  have HR : Hid (Row (setW w1 chars.data.toList) b off bs) := fun k hk => by
    have := HC.out k hk
    rw [HB.out.cell (p := ⟨b, off + k, none⟩) (World.block_lt_of_cell? _ _ this)]
    exact this
  clear HC
  generalize setW w1 chars.data.toList = W at *
  go_loop [62] (fun i => ∃ k : Nat, k ≤ bs.length ∧ i = .int .i64 k ∧ Lib.NoAny bs chars.data.toList k) (fun i => bs.length - (intOf i).toNat)
  case atStart => exact ⟨0, by omega, rfl, Lib.NoAny.zero _ _⟩
  case round =>
    obtain ⟨k, hk, rfl, hno⟩ := hrel
    by_cases hlt : k < bs.length
    · have hc := HR.out k hlt
      have hg : Hid (bs[k]? = some (bs.getD k 0)) := by simp [List.getD, hlt, Hid]
      unfold val at hc
      generalize bs.getD k 0 = x at *
      have hcx := HS.out x
      cases hin : chars.data.toList.contains x
      · rw [hin] at hcx
        have hno' := hno.succ hg.out hin
        clear hno hg hin
        go_wp2_with (go_at_call 33; refine (Tryd.bytes_asciiSet_contains _ x _ _ hcx).mono ?_; rintro e w' ⟨rfl, hw⟩; rw [hw])
        go_round
        case rel => exact ⟨k + 1, hlt, by go_num, hno'⟩
        case measure => simp [intOf]; omega
      · rw [hin] at hcx
        have hr : Hid (_ = _) := Lib.indexAny_hit hno hg.out hin
        clear hno hg hin
        go_wp2_with (go_at_call 33; refine (Tryd.bytes_asciiSet_contains _ x _ _ hcx).mono ?_; rintro e w' ⟨rfl, hw⟩; rw [hw])
        go_ret
        exact ⟨ret_int (by rw [hr.out]), HB.out⟩
    · have e : k = bs.length := by omega
      have hr : Hid (Lib.indexAny bs chars.data.toList = -1) := Lib.indexAny_none (e ▸ hno)
      clear e hno
      go_wp2
      go_ret
      exact ⟨ret_int (by rw [hr.out]), HB.out⟩
end Go.Proofs.Qxb6602448aDoor

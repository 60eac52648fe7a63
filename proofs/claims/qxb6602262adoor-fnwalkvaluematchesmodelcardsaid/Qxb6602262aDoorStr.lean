/-
  Seat b6602262aD: zzBytes (5), zzStringEnd (11).
-/
import Derived.Test.Qxb6602262aDoorProg
import Derived.Test.Qxb6602262aDoorPlain
import Derived.WalkKit
import Derived.WalkSpells
import Derived.WalkLawsBesides
import Derived.BigQuiet
import Derived.Deep.QuietTactic
namespace Go.Proofs.Qxb6602262aDoor
open Go.RowKit

/-- The slice of n bytes at block b holds bs. -/
def Holds (w : World) (b : Nat) (bs : List UInt8) : Prop := ∀ k, k < bs.length → w.cell? ⟨b, k, none⟩ = some (.int .u8 (bs.getD k 0).toNat)

theorem tst (c v : UInt8) (n : Int) (hn : (v.toNat : Int) = n) : ((c.toNat : Int) == n) = decide (c = v) := by
  rw [Bool.eq_iff_iff]
  simp only [beq_iff_eq, decide_eq_true_eq]
  constructor
  · intro h; exact UInt8.toNat_inj.1 (by omega)
  · intro h; subst h; exact hn
theorem tst_yes {c v : UInt8} (h : c = v) (n : Int) (hn : (v.toNat : Int) = n) : ((c.toNat : Int) == n) = true := by rw [tst c v n hn, h]; simp
theorem tst_no {c v : UInt8} (h : c ≠ v) (n : Int) (hn : (v.toNat : Int) = n) : ((c.toNat : Int) == n) = false := by rw [tst c v n hn]; simp [h]
theorem c_lt (c : UInt8) : (c.toNat : Int) < 256 := by have := UInt8.toNat_lt c; omega
theorem ret_int {k : IntKind} {a b : Int} (h : a = b) : Ending.returned (.int k a) = .returned (.int k b) := by rw [h]

set_option maxHeartbeats 400000 in
theorem bytes5 (a : Option Addr) (n c : Nat) (i : Int) (w : World) (hn : n ≤ 9223372036854775807) :
    Calls Tryd.prog 5 #[.slice a n c, .int .i64 i] w fun e w' => e = .returned (.bool (decide (n ≤ 1048576))) ∧ w' = w := by
  by_cases h : n ≤ 1048576
  · go_enter Tryd.func5, Tryd.ntmps5
    go_wp2
    go_ret
    exact ⟨by simp [h], rfl⟩
  · go_enter Tryd.func5, Tryd.ntmps5
    go_wp2
    go_ret
    exact ⟨by simp [h], rfl⟩

def seInv (bs : List UInt8) (k r : Nat) : Prop := r = scan (bs.drop k) (min k bs.length) false

theorem seInv_esc {bs : List UInt8} {k r : Nat} (h : seInv bs k r) (hk : k < bs.length) (hc : bs.getD k 0 = 92) : seInv bs (k + 2) r := by
  unfold seInv at *
  rw [h, drop_cons hk, scan, if_pos hc, show min k bs.length = k by omega]
  by_cases h1 : k + 1 < bs.length
  · rw [drop_cons h1, scan, show min (k + 2) bs.length = k + 2 by omega]
  · rw [List.drop_eq_nil_of_le (by omega : bs.length ≤ k + 1), List.drop_eq_nil_of_le (by omega : bs.length ≤ k + 2), scan, scan]; omega
theorem seInv_end {bs : List UInt8} {k r : Nat} (h : seInv bs k r) (hk : k < bs.length) (hc : bs.getD k 0 = 34) : r = k + 1 := by
  unfold seInv at *
  rw [h, drop_cons hk, scan, if_neg (by rw [hc]; decide), if_pos hc, show min k bs.length = k by omega]
theorem seInv_go {bs : List UInt8} {k r : Nat} (h : seInv bs k r) (hk : k < bs.length) (h1 : bs.getD k 0 ≠ 92) (h2 : bs.getD k 0 ≠ 34) : seInv bs (k + 1) r := by
  unfold seInv at *
  rw [h, drop_cons hk, scan, if_neg h1, if_neg h2, show min k bs.length = k by omega, show min (k + 1) bs.length = k + 1 by omega]
theorem seInv_past {bs : List UInt8} {k r : Nat} (h : seInv bs k r) (hk : ¬ k < bs.length) : r = bs.length := by
  unfold seInv at *
  rw [h, List.drop_eq_nil_of_le (by omega), scan]; omega

set_option maxHeartbeats 400000 in
theorem zzStr (b c i : Nat) (bs : List UInt8) (w : World) (hn : bs.length ≤ 65536) (hi : i < bs.length) (hc : Holds w b bs) :
    Calls Tryd.prog 11 #[.slice (some ⟨b, 0, none⟩) bs.length c, .int .i64 i] w fun e w' => e = .returned (.int .i64 (strEnd bs i : Nat)) ∧ w' = w := by
  have h0 : seInv bs (i + 1) (strEnd bs i) := by
    unfold seInv strEnd; rw [show min (i + 1) bs.length = i + 1 by omega]
  generalize strEnd bs i = r at *
  have HC : Hid (Holds w b bs) := hc
  clear hc
  go_enter Tryd.func11, Tryd.ntmps11
  go_wp2
  go_loop [5] (fun j => ∃ k : Nat, k ≤ bs.length + 1 ∧ j = .int .i64 k ∧ seInv bs k r) (fun j => bs.length + 1 - (intOf j).toNat)
  case atStart => exact ⟨i + 1, by omega, by go_num, h0⟩
  case round =>
    obtain ⟨k, hk, rfl, hI⟩ := hrel
    by_cases hlt : k < bs.length
    · have hcell := HC.out k hlt
      by_cases h1 : bs.getD k 0 = 92
      · have hI' := seInv_esc hI hlt h1
        have t1 := tst_yes h1 92 rfl
        clear hI h1 h0
        generalize bs.getD k 0 = x at *
        go_wp2
        go_round
        case rel => exact ⟨k + 2, by omega, by go_num, hI'⟩
        case measure => simp [intOf]; omega
      · have t1 := tst_no h1 92 rfl
        by_cases h2 : bs.getD k 0 = 34
        · have hr : Hid (r = k + 1) := seInv_end hI hlt h2
          have t2 := tst_yes h2 34 rfl
          clear hI h1 h2 h0
          generalize bs.getD k 0 = x at *
          go_wp2
          go_ret
          exact ⟨ret_int (by rw [hr.out]; omega), rfl⟩
        · have t2 := tst_no h2 34 rfl
          have hI' := seInv_go hI hlt h1 h2
          clear hI h1 h2 h0
          generalize bs.getD k 0 = x at *
          go_wp2
          go_round
          case rel => exact ⟨k + 1, by omega, by go_num, hI'⟩
          case measure => simp [intOf]; omega
    · have hr : Hid (r = bs.length) := seInv_past hI hlt
      clear hI h0
      go_wp2
      go_ret
      exact ⟨ret_int (by rw [hr.out]), rfl⟩

end Go.Proofs.Qxb6602262aDoor

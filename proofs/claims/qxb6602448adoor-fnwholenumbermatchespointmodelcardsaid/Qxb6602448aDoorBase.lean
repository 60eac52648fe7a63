/-
  Seat b6602448aD: small facts; zzBytes (6), zzb1IsDigit (13), isDigit (16), zzb1Copy (8).
-/
import Derived.Test.Qxb6602448aDoorProg
import Derived.Test.Qxb6602448aDoorPlain
import Derived.WalkKit
import Derived.WalkSpells
import Derived.WalkLawsBesides
import Derived.BigQuiet
import Derived.Deep.QuietTactic
import Derived.Deep.OwnRows
import Derived.Lib.SlBytesConst
namespace Go.Proofs.Qxb6602448aDoor
open Go.RowKit

/-- The bytes bs lie at block b from off on. -/
def val (c : UInt8) : Value := .int .u8 c.toNat
def Row (w : World) (b off : Nat) (bs : List UInt8) : Prop := ∀ k, k < bs.length → w.cell? ⟨b, off + k, none⟩ = some (val (bs.getD k 0))
theorem Row.below {w w' : World} {b off : Nat} {bs : List UInt8} (h : Row w b off bs) (hb : Below w.heap.size w w') : Row w' b off bs := fun k hk => by
  have := h k hk
  rw [hb.cell (p := ⟨b, off + k, none⟩) (World.block_lt_of_cell? _ _ this)]
  exact this
theorem Row.part {w : World} {b off : Nat} {bs : List UInt8} (h : Row w b off bs) (i n : Nat) : Row w b (off + i) ((bs.drop i).take n) := fun k hk => by
  rw [List.length_take, List.length_drop] at hk
  rw [Nat.add_assoc, h (i + k) (by omega)]
  simp only [List.getD, List.getElem?_take, List.getElem?_drop]
  rw [if_pos (by omega)]
theorem Row.drop {w : World} {b off : Nat} {bs : List UInt8} (h : Row w b off bs) (i : Nat) : Row w b (off + i) (bs.drop i) := fun k hk => by
  rw [List.length_drop] at hk
  rw [Nat.add_assoc, h (i + k) (by omega)]
  simp only [List.getD, List.getElem?_drop]
theorem Row.take {w : World} {b off : Nat} {bs : List UInt8} (h : Row w b off bs) (n : Nat) : Row w b off (bs.take n) := fun k hk => by
  rw [List.length_take] at hk
  rw [h k (by omega)]
  simp only [List.getD, List.getElem?_take]
  rw [if_pos (by omega)]

theorem tst (c v : UInt8) (n : Int) (hn : (v.toNat : Int) = n) : ((c.toNat : Int) == n) = decide (c = v) := by
  rw [Bool.eq_iff_iff]
  simp only [beq_iff_eq, decide_eq_true_eq]
  constructor
  · intro h; exact UInt8.toNat_inj.1 (by omega)
  · intro h; subst h; exact hn
theorem tst_yes {c v : UInt8} (h : c = v) (n : Int) (hn : (v.toNat : Int) = n) : ((c.toNat : Int) == n) = true := by rw [tst c v n hn, h]; simp
theorem tst_no {c v : UInt8} (h : c ≠ v) (n : Int) (hn : (v.toNat : Int) = n) : ((c.toNat : Int) == n) = false := by rw [tst c v n hn]; simp [h]
theorem c_lt (c : UInt8) : (c.toNat : Int) < 256 := by have := UInt8.toNat_lt c; omega
theorem ret_int {k : IntKind} {a b : Int} (h : a = b) : Ending.returned (.int k a) = .returned (.int k b) := by rw [h]

theorem ret_pair {k l : IntKind} {a b c d : Int} (h : a = b) (h' : c = d) : Ending.returned (.tuple #[.int k a, .int l c]) = .returned (.tuple #[.int k b, .int l d]) := by rw [h, h']

set_option maxHeartbeats 400000 in
theorem bytes6 (a : Option Addr) (n c : Nat) (w : World) (hn : n ≤ 9223372036854775807) :
    Calls Tryd.prog 6 #[.slice a n c] w fun e w' => e = .returned (.bool (decide (n ≤ 1048576))) ∧ w' = w := by
  by_cases h : n ≤ 1048576
  · go_enter Tryd.func6, Tryd.ntmps6
    go_wp2
    go_ret
    exact ⟨by simp [h], rfl⟩
  · go_enter Tryd.func6, Tryd.ntmps6
    go_wp2
    go_ret
    exact ⟨by simp [h], rfl⟩

set_option maxHeartbeats 400000 in
theorem isDig13 (c : UInt8) (w : World) : Calls Tryd.prog 13 #[.int .u8 c.toNat] w fun e w' => e = .returned (.bool (dig c)) ∧ w' = w := by
  by_cases h1 : 48 ≤ c.toNat
  · by_cases h2 : c.toNat ≤ 57
    · have e : dig c = true := by simp [dig, h1, h2]
      rw [e]
      go_enter Tryd.func13, Tryd.ntmps13
      go_wp2
      go_ret
      exact ⟨by simp; omega, rfl⟩
    · have e : dig c = false := by simp [dig, h2]
      rw [e]
      go_enter Tryd.func13, Tryd.ntmps13
      go_wp2
      go_ret
      exact ⟨by simp; omega, rfl⟩
  · have e : dig c = false := by simp [dig, h1]
    rw [e]
    go_enter Tryd.func13, Tryd.ntmps13
    go_wp2
    go_ret
    exact ⟨by simp, rfl⟩

set_option maxHeartbeats 400000 in
theorem isDig16 (c : UInt8) (w : World) : Calls Tryd.prog 16 #[.int .u8 c.toNat] w fun e w' => e = .returned (.bool (dig c)) ∧ w' = w := by
  by_cases h1 : 48 ≤ c.toNat
  · by_cases h2 : c.toNat ≤ 57
    · have e : dig c = true := by simp [dig, h1, h2]
      rw [e]
      go_enter Tryd.func16, Tryd.ntmps16
      go_wp2
      go_ret
      exact ⟨by simp; omega, rfl⟩
    · have e : dig c = false := by simp [dig, h2]
      rw [e]
      go_enter Tryd.func16, Tryd.ntmps16
      go_wp2
      go_ret
      exact ⟨by simp; omega, rfl⟩
  · have e : dig c = false := by simp [dig, h1]
    rw [e]
    go_enter Tryd.func16, Tryd.ntmps16
    go_wp2
    go_ret
    exact ⟨by simp, rfl⟩

/-- The copy's cells behind k rounds. -/
def cellsAt (bs : List UInt8) (k : Nat) : Array Value := ((bs.take k).map val ++ List.replicate (bs.length - k) (Value.int .u8 0)).toArray
def cellsAll (bs : List UInt8) : Array Value := (bs.map val).toArray

theorem cellsAt_zero (bs : List UInt8) : cellsAt bs 0 = madeCells #[.int .u8 0] bs.length := by
  apply Array.ext
  · simp [cellsAt, madeCells]
  · intro i h1 h2
    simp [cellsAt, madeCells, Nat.mod_one]
theorem cellsAt_end (bs : List UInt8) : cellsAt bs bs.length = cellsAll bs := by simp [cellsAt, cellsAll]
theorem cellsAt_get (bs : List UInt8) (k : Nat) (h : k < bs.length) : (cellsAt bs k)[k]? = some (.int .u8 0) := by
  unfold cellsAt
  have hl : ((bs.take k).map val).length = k := by simp; omega
  rw [List.getElem?_toArray, List.getElem?_append_right (by omega), hl, Nat.sub_self, List.getElem?_replicate, if_pos (by omega)]
theorem cellsAt_set (bs : List UInt8) (k : Nat) (h : k < bs.length) : (cellsAt bs k).setIfInBounds k (val (bs.getD k 0)) = cellsAt bs (k + 1) := by
  apply Array.ext_getElem?
  intro j
  have hl : ((bs.take k).map val).length = k := by simp; omega
  simp only [cellsAt, List.setIfInBounds_toArray, List.getElem?_toArray]
  rw [List.take_succ_eq_append_getElem h, List.map_append, List.append_assoc, List.getElem?_set]
  have hg : bs.getD k 0 = bs[k] := by simp [List.getD, h]
  by_cases hj : k = j
  · subst hj
    rw [if_pos rfl, if_pos (by simp; omega), List.getElem?_append_right (by omega), hl, Nat.sub_self, hg]
    rfl
  · rw [if_neg hj]
    by_cases hlt : j < k
    · rw [List.getElem?_append_left (by omega), List.getElem?_append_left (by omega)]
    · rw [List.getElem?_append_right (by omega), List.getElem?_append_right (by omega), hl]
      obtain ⟨t, rfl⟩ : ∃ t, j = k + 1 + t := ⟨j - k - 1, by omega⟩
      rw [show k + 1 + t - k = t + 1 by omega, List.map_cons, List.map_nil, List.singleton_append, List.getElem?_cons_succ, List.getElem?_replicate, List.getElem?_replicate]
      by_cases ht : t + 1 < bs.length - k
      · rw [if_pos ht, if_pos (by omega)]
      · rw [if_neg ht, if_neg (by omega)]

theorem holds_new (w : World) (bs : List UInt8) : Row (w.alloc (.cells (cellsAll bs) 5)) w.heap.size 0 bs := by
  intro k hk
  rw [Nat.zero_add]
  rw [World.cell?_alloc_at _ _ _ _ rfl]
  simp [cellsAll, val, hk, List.getD]

theorem info5 : (Tryd.prog.info? 5).map (fun i => (i.zero, i.size, i.bytes)) = some (some (.int .u8 0), 1, 1) := by kernel_rfl
theorem eql22 (w : World) (a : Option Addr) (n c n' c' : Nat) : (binOp .eql 22 (.slice a n c) (.slice none n' c')).run Tryd.prog w = .ok (.bool a.isNone) w := Lib.run_eql_slice_nil w _ _ a n c n' c' Tryd.underlying22

set_option maxHeartbeats 400000 in
theorem clone_nil (w : World) : Calls Tryd.prog 8 #[.slice none 0 0] w fun e w' => e = .returned (.slice none 0 0) ∧ w' = w := by
  have q := eql22
  go_enter Tryd.func8, Tryd.ntmps8
  go_wp2
  go_ret
  exact ⟨rfl, rfl⟩

set_option maxHeartbeats 400000 in
theorem clone_none (a : Addr) (c : Nat) (w : World) : Calls Tryd.prog 8 #[.slice (some a) 0 c] w fun e w' => e = .returned (.slice (some ⟨w.heap.size, 0, none⟩) 0 0) ∧ w' = w.alloc (.cells (cellsAll []) 5) := by
  have q := eql22
  have mk := run_make_row' (P := Tryd.prog) 22 5 (.int .u8 0) 1 Tryd.underlying22 info5 rfl .i64 .i64 0 (by omega) (by omega)
  have e0 : madeCells #[.int .u8 0] 0 = cellsAll [] := (cellsAt_zero []).symm
  rw [e0] at mk
  simp only [Int.natCast_zero] at mk
  go_enter Tryd.func8, Tryd.ntmps8
  go_wp2
  refine wp_loop_rounds 1 ?_
  rw [rounds_succ]
  go_wp2
  go_ret
  exact ⟨rfl, rfl⟩

set_option maxHeartbeats 400000 in
theorem clone_some (b off c : Nat) (bs : List UInt8) (w : World) (hn : bs.length ≤ 1048576) (hcell : ∀ k, k < bs.length → w.cell? ⟨b, off + k, none⟩ = some (val (bs.getD k 0))) :
    Calls Tryd.prog 8 #[.slice (some ⟨b, off, none⟩) bs.length c] w fun e w' => e = .returned (.slice (some ⟨w.heap.size, 0, none⟩) bs.length bs.length) ∧ w' = w.alloc (.cells (cellsAll bs) 5) := by
  have q := eql22
  have mk := run_make_row' (P := Tryd.prog) 22 5 (.int .u8 0) 1 Tryd.underlying22 info5 rfl .i64 .i64 bs.length (by omega) (by omega)
  rw [← cellsAt_zero] at mk
  have HC : Hid (∀ k, k < bs.length → w.cell? ⟨b, off + k, none⟩ = some (val (bs.getD k 0))) := hcell
  clear hcell
  go_enter Tryd.func8, Tryd.ntmps8
  go_wp2
  clear mk q
  go_loopw [4] (fun i wr => ∃ k : Nat, k ≤ bs.length ∧ i = .int .i64 k ∧ wr = w.alloc (.cells (cellsAt bs k) 5)) (fun i _ => bs.length - (intOf i).toNat)
  case atStart => exact ⟨0, Nat.zero_le _, rfl, rfl⟩
  case round =>
    obtain ⟨k, hk, rfl, rfl⟩ := hrel
    by_cases hlt : k < bs.length
    · have hc := HC.out k hlt
      have hb : b < w.heap.size := World.block_lt_of_cell? w ⟨b, off + k, none⟩ hc
      have hc2 : ∀ o, (w.alloc o).cell? ⟨b, off + k, none⟩ = some (val (bs.getD k 0)) := fun o => by rw [World.cell?_alloc_past _ _ _ hb]; exact hc
      have hg := cellsAt_get bs k hlt
      have HS : Hid ((cellsAt bs k).setIfInBounds k (val (bs.getD k 0)) = cellsAt bs (k + 1)) := cellsAt_set bs k hlt
      unfold val at hc2 HS
      clear hc
      generalize bs.getD k 0 = x at *
      go_wp2
      go_roundw
      case rel => exact ⟨k + 1, hlt, by go_num, by rw [HS.out]⟩
      case measure => simp [intOf]; omega
    · have e : k = bs.length := by omega
      have HE : Hid (cellsAt bs k = cellsAll bs) := by show _ = _; rw [e]; exact cellsAt_end bs
      clear e
      go_wp2
      go_ret
      exact ⟨rfl, by rw [HE.out]⟩
end Go.Proofs.Qxb6602448aDoor

/-
  Seat b6602262aD: zzCloneB1 (6): a copy in memory of its own.
-/
import Derived.Test.Qxb6602262aDoorStr
import Derived.Deep.OwnRows
namespace Go.Proofs.Qxb6602262aDoor
open Go.RowKit

def val (c : UInt8) : Value := .int .u8 c.toNat
/-- The copy's cells behind k rounds. -/
def cellsAt (bs : List UInt8) (k : Nat) : Array Value := ((bs.take k).map val ++ List.replicate (bs.length - k) (Value.int .u8 0)).toArray
def cellsAll (bs : List UInt8) : Array Value := (bs.map val).toArray

theorem cellsAt_zero (bs : List UInt8) : cellsAt bs 0 = madeCells #[.int .u8 0] bs.length := by
  apply Array.ext
  · simp [cellsAt, madeCells]
  · intro i h1 h2
    simp [cellsAt, madeCells, Nat.mod_one]
theorem cellsAt_end (bs : List UInt8) : cellsAt bs bs.length = cellsAll bs := by simp [cellsAt, cellsAll]
theorem cellsAt_get (bs : List UInt8) (k : Nat) (h : k < bs.length) : (cellsAt bs k)[k]? = some (.int .u8 0) := by
  unfold cellsAt
  have hl : ((bs.take k).map val).length = k := by simp; omega
  rw [List.getElem?_toArray, List.getElem?_append_right (by omega), hl, Nat.sub_self, List.getElem?_replicate, if_pos (by omega)]
theorem cellsAt_set (bs : List UInt8) (k : Nat) (h : k < bs.length) : (cellsAt bs k).setIfInBounds k (val (bs.getD k 0)) = cellsAt bs (k + 1) := by
  apply Array.ext_getElem?
  intro j
  have hl : ((bs.take k).map val).length = k := by simp; omega
  simp only [cellsAt, List.setIfInBounds_toArray, List.getElem?_toArray]
  rw [List.take_succ_eq_append_getElem h, List.map_append, List.append_assoc, List.getElem?_set]
  have hg : bs.getD k 0 = bs[k] := by simp [List.getD, h]
  by_cases hj : k = j
  · subst hj
    rw [if_pos rfl, if_pos (by simp; omega), List.getElem?_append_right (by omega), hl, Nat.sub_self, hg]
    rfl
  · rw [if_neg hj]
    by_cases hlt : j < k
    · rw [List.getElem?_append_left (by omega), List.getElem?_append_left (by omega)]
    · rw [List.getElem?_append_right (by omega), List.getElem?_append_right (by omega), hl]
      obtain ⟨t, rfl⟩ : ∃ t, j = k + 1 + t := ⟨j - k - 1, by omega⟩
      rw [show k + 1 + t - k = t + 1 by omega, List.map_cons, List.map_nil, List.singleton_append, List.getElem?_cons_succ, List.getElem?_replicate, List.getElem?_replicate]
      by_cases ht : t + 1 < bs.length - k
      · rw [if_pos ht, if_pos (by omega)]
      · rw [if_neg ht, if_neg (by omega)]

theorem holds_new (w : World) (bs : List UInt8) : Holds (w.alloc (.cells (cellsAll bs) 5)) w.heap.size bs := by
  intro k hk
  rw [World.cell?_alloc_at _ _ _ _ rfl]
  simp [cellsAll, val, hk, List.getD]

theorem info5 : (Tryd.prog.info? 5).map (fun i => (i.zero, i.size, i.bytes)) = some (some (.int .u8 0), 1, 1) := by kernel_rfl
theorem eql22 (w : World) (a : Option Addr) (n c n' c' : Nat) : (binOp .eql 22 (.slice a n c) (.slice none n' c')).run Tryd.prog w = .ok (.bool a.isNone) w := Lib.run_eql_slice_nil w _ _ a n c n' c' Tryd.underlying22

set_option maxHeartbeats 400000 in
theorem clone_nil (w : World) : Calls Tryd.prog 6 #[.slice none 0 0] w fun e w' => e = .returned (.slice none 0 0) ∧ w' = w := by
  have q := eql22
  go_enter Tryd.func6, Tryd.ntmps6
  go_wp2
  go_ret
  exact ⟨rfl, rfl⟩

set_option maxHeartbeats 400000 in
theorem clone_none (a : Addr) (c : Nat) (w : World) : Calls Tryd.prog 6 #[.slice (some a) 0 c] w fun e w' => e = .returned (.slice (some ⟨w.heap.size, 0, none⟩) 0 0) ∧ w' = w.alloc (.cells (cellsAll []) 5) := by
  have q := eql22
  have mk := run_make_row' (P := Tryd.prog) 22 5 (.int .u8 0) 1 Tryd.underlying22 info5 rfl .i64 .i64 0 (by omega) (by omega)
  have e0 : madeCells #[.int .u8 0] 0 = cellsAll [] := (cellsAt_zero []).symm
  rw [e0] at mk
  simp only [Int.natCast_zero] at mk
  go_enter Tryd.func6, Tryd.ntmps6
  go_wp2
  refine wp_loop_rounds 1 ?_
  rw [rounds_succ]
  go_wp2
  go_ret
  exact ⟨rfl, rfl⟩

set_option maxHeartbeats 400000 in
theorem clone_some (b off c : Nat) (bs : List UInt8) (w : World) (hn : bs.length ≤ 65536) (hcell : ∀ k, k < bs.length → w.cell? ⟨b, off + k, none⟩ = some (val (bs.getD k 0))) :
    Calls Tryd.prog 6 #[.slice (some ⟨b, off, none⟩) bs.length c] w fun e w' => e = .returned (.slice (some ⟨w.heap.size, 0, none⟩) bs.length bs.length) ∧ w' = w.alloc (.cells (cellsAll bs) 5) := by
  have q := eql22
  have mk := run_make_row' (P := Tryd.prog) 22 5 (.int .u8 0) 1 Tryd.underlying22 info5 rfl .i64 .i64 bs.length (by omega) (by omega)
  rw [← cellsAt_zero] at mk
  have HC : Hid (∀ k, k < bs.length → w.cell? ⟨b, off + k, none⟩ = some (val (bs.getD k 0))) := hcell
  clear hcell
  go_enter Tryd.func6, Tryd.ntmps6
  go_wp2
  clear mk q
  go_loopw [4] (fun i wr => ∃ k : Nat, k ≤ bs.length ∧ i = .int .i64 k ∧ wr = w.alloc (.cells (cellsAt bs k) 5)) (fun i _ => bs.length - (intOf i).toNat)
  case atStart => exact ⟨0, Nat.zero_le _, rfl, rfl⟩
  case round =>
    obtain ⟨k, hk, rfl, rfl⟩ := hrel
    by_cases hlt : k < bs.length
    · have hc := HC.out k hlt
      have hb : b < w.heap.size := World.block_lt_of_cell? w ⟨b, off + k, none⟩ hc
      have hc2 : ∀ o, (w.alloc o).cell? ⟨b, off + k, none⟩ = some (val (bs.getD k 0)) := fun o => by rw [World.cell?_alloc_past _ _ _ hb]; exact hc
      have hg := cellsAt_get bs k hlt
      have HS : Hid ((cellsAt bs k).setIfInBounds k (val (bs.getD k 0)) = cellsAt bs (k + 1)) := cellsAt_set bs k hlt
      unfold val at hc2 HS
      clear hc
      generalize bs.getD k 0 = x at *
      go_wp2
      go_roundw
      case rel => exact ⟨k + 1, hlt, by go_num, by rw [HS.out]⟩
      case measure => simp [intOf]; omega
    · have e : k = bs.length := by omega
      have HE : Hid (cellsAt bs k = cellsAll bs) := by show _ = _; rw [e]; exact cellsAt_end bs
      clear e
      go_wp2
      go_ret
      exact ⟨rfl, by rw [HE.out]⟩
end Go.Proofs.Qxb6602262aDoor

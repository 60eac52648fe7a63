/-
  Seat b6602448aD: slices.Grow at nil (40), slices.Concat of two pieces (24), bytes.TrimPrefix at '-' (20).
-/
import Derived.Test.Qxb6602448aDoorSl
import Derived.Test.Qxb6602448aDoorShelf
namespace Go.Proofs.Qxb6602448aDoor
open Go.RowKit

theorem grow_nil (n : Nat) (w : World) (h0 : 0 < n) (hn : n ≤ 4194304) :
    Calls Tryd.prog 40 #[.slice none 0 0, .int .i64 n] w fun e w' => ∃ g cap, e = .returned (.slice (some ⟨g, 0, none⟩) 0 cap) ∧ OwnB w w' (.slice (some ⟨g, 0, none⟩) 0 cap) [] := by
  refine (Any8.slices_Grow_grow Tryd.grow Tryd.t5 (.int .u8 0) info5' rfl (by decide) none 0 0 n [] w (Nat.le_refl _) (by omega) (by show (0 + n) * 1 ≤ _; omega) (by omega) rfl (fun _ => rfl) (fun a e => by cases e)).mono ?_
  rintro e w' ⟨rfl, rfl⟩
  refine ⟨_, _, rfl, ?_⟩
  have hge := grownCap_ge w (0 + n) 0 (Tryd.grow_ren.t 25)
  have hle := grownCap_le_maxLen w (0 + n) 0 (Tryd.grow_ren.t 25) (by unfold maxLen; omega)
  refine ⟨?_, ⟨_, _, rfl⟩, ?_⟩
  · refine World.ownsRow_made w.drew _ _ (Nat.le_refl _) hle ?_
    rw [Array.size_append, Array.size_append, size_zeroCells, size_zeroCells]
    show 0 + (0 + n - 0) * 1 + (_ - (0 + n)) * 1 = _
    omega
  · exact (show Below w.heap.size w w.drew from ⟨rfl, rfl, rfl, Nat.le_refl _, fun _ _ => rfl⟩).alloc (Nat.le_refl _) _

set_option maxHeartbeats 1000000 in
theorem concat (h : Nat) (v1 v2 : Value) (l1 l2 : List UInt8) (w : World) (hc0 : w.cell? ⟨h, 0, none⟩ = some v1) (hc1 : w.cell? ⟨h, 1, none⟩ = some v2) (h1 : Piece w v1 l1) (h2 : Piece w v2 l2) (hne : l1 ≠ []) (hn1 : l1.length ≤ 1048576) (hn2 : l2.length ≤ 1048576) :
    Calls Tryd.prog 24 #[.slice (some ⟨h, 0, none⟩) 2 2] w fun e w' => ∃ v, e = .returned v ∧ OwnB w w' v (l1 ++ l2) := by
  have H1 : Hid (Piece w v1 l1) := h1
  have H2 : Hid (Piece w v2 l2) := h2
  obtain ⟨p1, c1, rfl, hk1, hm1⟩ := h1.form
  obtain ⟨p2, c2, rfl, hk2, hm2⟩ := h2.form
  have hl1 : 0 < l1.length := List.length_pos_iff.2 hne
  clear h1 h2 hne
  have HG : Hid (∀ W, Calls Tryd.prog 40 #[.slice none 0 0, .int .i64 ((l1.length + l2.length : Nat) : Int)] W fun e w' => ∃ g cap, e = .returned (.slice (some ⟨g, 0, none⟩) 0 cap) ∧ OwnB W w' (.slice (some ⟨g, 0, none⟩) 0 cap) []) := fun W => grow_nil _ W (by omega) (by omega)
  have HCl : Hid (w.cell? ⟨h, 0, none⟩ = some (.slice p1 l1.length c1)) := hc0
  have HCr : Hid (w.cell? ⟨h, 1, none⟩ = some (.slice p2 l2.length c2)) := hc1
  go_enter Tryd.func24, Tryd.ntmps24
  go_upto_block 0 with fail
  go_cut [3] (fun s wx => s = .int .i64 ((l1.length + l2.length : Nat) : Int) ∧ w = wx)
  case first =>
    go_wp2_with fail
    go_loopw [3, 11] (fun s i wr => wr = w ∧ ((s = .int .i64 0 ∧ i = .int .i64 0) ∨ (s = .int .i64 l1.length ∧ i = .int .i64 1) ∨ (s = .int .i64 ((l1.length : Int) + l2.length) ∧ i = .int .i64 2))) (fun _ i _ => 2 - (intOf i).toNat)
    case atStart => exact ⟨rfl, .inl ⟨rfl, rfl⟩⟩
    case round =>
      obtain ⟨hw, hh⟩ := hrel
      subst hw
      rcases hh with ⟨rfl, rfl⟩ | ⟨rfl, rfl⟩ | ⟨rfl, rfl⟩
      · go_wp2_with fail
        go_roundw
        case rel => exact ⟨by trivial, .inr (.inl ⟨by simp, rfl⟩)⟩
        case measure => simp [intOf]
      · go_wp2_with fail
        go_roundw
        case rel => exact ⟨by trivial, .inr (.inr ⟨rfl, rfl⟩)⟩
        case measure => simp [intOf]
      · go_wp2_with fail
        go_meet
        case rel => exact ⟨by go_num, rfl⟩
  case rest =>
    obtain ⟨rfl, rfl⟩ := hcut
    go_wp2_with fail
    refine (HG.out _).mono ?_
    rintro e w1 ⟨g, cap, rfl, hO⟩
    clear hc0 hc1
    clear HG
    go_wp2_with fail
    go_loopw [6, 27] (fun v i wr => (i = .int .i64 0 ∧ OwnB w wr v []) ∨ (i = .int .i64 1 ∧ OwnB w wr v l1) ∨ (i = .int .i64 2 ∧ OwnB w wr v (l1 ++ l2))) (fun _ i _ => 2 - (intOf i).toNat)
    case atStart => exact .inl ⟨rfl, hO⟩
    case round =>
      clear hO
      rcases hrel with ⟨rfl, hO⟩ | ⟨rfl, hO⟩ | ⟨rfl, hO⟩
      · have hC0 : wr.cell? ⟨h, 0, none⟩ = some (.slice p1 l1.length c1) := (hO.bel.cell (p := ⟨h, 0, none⟩) (World.block_lt_of_cell? _ _ HCl.out)).trans HCl.out
        go_wp2_with (at_builtin; refine append_piece rfl _ _ rfl _ [] rfl hO _ l1 rfl (H1.out.below hO.bel) ?len ?_)
        case len => simp; omega
        intro v' w2 hO2
        clear hC0 hO
        go_wp2_with fail
        go_roundw
        case rel => exact .inr (.inl ⟨rfl, by simpa using hO2⟩)
        case measure => simp [intOf]
      · have hC1 : wr.cell? ⟨h, 1, none⟩ = some (.slice p2 l2.length c2) := (hO.bel.cell (p := ⟨h, 1, none⟩) (World.block_lt_of_cell? _ _ HCr.out)).trans HCr.out
        go_wp2_with (at_builtin; refine append_piece rfl _ _ rfl _ l1 rfl hO _ l2 rfl (H2.out.below hO.bel) ?len ?_)
        case len => omega
        intro v' w2 hO2
        clear hC1 hO
        go_wp2_with fail
        go_roundw
        case rel => exact .inr (.inr ⟨rfl, hO2⟩)
        case measure => simp [intOf]
      · go_wp2_with fail
        go_ret
        exact ⟨_, rfl, hO⟩

theorem trimMinus (b off c : Nat) (bs : List UInt8) (u : Value) (w : World) (h1 : 1 ≤ bs.length) (hc : bs.length ≤ c) (hm : c ≤ 9223372036854775807) (hr : Row w b off bs) (hu : Piece w u [45]) :
    Calls Tryd.prog 20 #[.slice (some ⟨b, off, none⟩) bs.length c, u] w fun e w' => (∃ v, e = .returned v ∧ Piece w v (bs.drop (J0 bs))) ∧ w' = w := by
  obtain ⟨p2, c2, rfl, hc2, hm2⟩ := hu.form
  have hp := Piece.mk' hr hc hm
  refine (Tryd.bytes_TrimPrefix _ p2 bs.length c 1 c2 (Lib.numsL bs) (Lib.numsL [45]) w (Lib.numsL_length bs) (Lib.numsL_length [45]) hc hp.bytesIn hu.bytesIn).mono ?_
  rintro e w' ⟨rfl, rfl⟩
  refine ⟨⟨_, rfl, ?_⟩, rfl⟩
  show Piece w' (Lib.bytesTrimPrefix b off bs.length c (Lib.numsL bs) (Lib.numsL [45])) _
  unfold Lib.bytesTrimPrefix
  rw [Lib.bytesOf_numsL, Lib.bytesOf_numsL]
  obtain ⟨x, xs, rfl⟩ : ∃ x xs, bs = x :: xs := by
    cases bs with
    | nil => simp at h1
    | cons x xs => exact ⟨x, xs, rfl⟩
  by_cases hx : x = 45
  · subst hx
    have e : J0 (45 :: xs) = 1 := by unfold J0; rw [if_pos (by rfl)]
    rw [e, if_pos (by simp [Lib.hasPrefix, List.isPrefixOf])]
    have := hp.fromV hc hm 1
    unfold Lib.fromV at this
    unfold Lib.sliceFrom
    exact this
  · have e : J0 (x :: xs) = 0 := by unfold J0; rw [if_neg (by simpa using hx)]
    rw [e, if_neg (by simp [Lib.hasPrefix, List.isPrefixOf, Ne.symm hx])]
    exact hp
end Go.Proofs.Qxb6602448aDoor

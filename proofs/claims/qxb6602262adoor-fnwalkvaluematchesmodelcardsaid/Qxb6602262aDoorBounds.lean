/-
  Seat b6602262aD: FnWalkValueBoundsAndPrefix (4): the law's walk.
-/
import Derived.Test.Qxb6602262aDoorWalkC
namespace Go.Proofs.Qxb6602262aDoor
open Go.RowKit

theorem Holds.below {w w' : World} {b : Nat} {bs : List UInt8} (h : Holds w b bs) (hb : Below w.heap.size w w') : Holds w' b bs := fun k hk => by
  have := h k hk
  rw [hb.cell (p := ⟨b, k, none⟩) (World.block_lt_of_cell? _ _ this)]
  exact this
theorem Holds.take {w : World} {b : Nat} {bs : List UInt8} (h : Holds w b bs) (e : Nat) : Holds w b (bs.take e) := fun k hk => by
  rw [List.length_take] at hk
  rw [h k (by omega)]
  simp [List.getD, List.getElem?_take]
  rw [if_pos (by omega)]

set_option maxHeartbeats 400000 in
theorem bytes9 (a : Option Addr) (n c : Nat) (i : Int) (w : World) (hn : n ≤ 9223372036854775807) :
    Calls Tryd.prog 9 #[.slice a n c, .int .i64 i] w fun e w' => e = .returned (.bool (decide (n ≤ 1048576))) ∧ w' = w := by
  by_cases h : n ≤ 1048576
  · go_enter Tryd.func9, Tryd.ntmps9
    go_wp2
    go_ret
    exact ⟨by simp [h], rfl⟩
  · go_enter Tryd.func9, Tryd.ntmps9
    go_wp2
    go_ret
    exact ⟨by simp [h], rfl⟩

/-- The law lets the input by: the text is too long, or i is negative. -/
theorem law4_out (a : Option Addr) (n c : Nat) (i : Int) (w : World) (hn : n ≤ 9223372036854775807) (ho : 65536 < n ∨ i < 0) :
    Calls Tryd.prog 4 #[.slice a n c, .int .i64 i] w fun e w' => e = .returned (.bool true) ∧ w' = w := by
  by_cases h20 : n ≤ 1048576
  · have hd : decide (n ≤ 1048576) = true := decide_eq_true h20
    by_cases h16 : n ≤ 65536
    · have hi : i < 0 := by omega
      clear ho
      go_enter Tryd.func4, Tryd.ntmps4
      go_wp2_with fail
      refine (bytes9 a n c i w hn).mono ?_
      rintro e w1 ⟨rfl, hw1⟩
      rw [hw1, hd]
      go_wp2
      go_ret
      exact ⟨rfl, rfl⟩
    · clear ho
      go_enter Tryd.func4, Tryd.ntmps4
      go_wp2_with fail
      refine (bytes9 a n c i w hn).mono ?_
      rintro e w1 ⟨rfl, hw1⟩
      rw [hw1, hd]
      go_wp2
      go_ret
      exact ⟨rfl, rfl⟩
  · have hd : decide (n ≤ 1048576) = false := decide_eq_false h20
    clear ho
    go_enter Tryd.func4, Tryd.ntmps4
    go_wp2_with fail
    refine (bytes9 a n c i w hn).mono ?_
    rintro e w1 ⟨rfl, hw1⟩
    rw [hw1, hd]
    go_wp2
    go_ret
    exact ⟨rfl, rfl⟩

set_option maxHeartbeats 400000 in
/-- i at or past the end. -/
theorem law4_past (a a' : Option Addr) (n c c' : Nat) (i : Int) (w W : World) (hn : n ≤ 65536) (hi : (n : Int) ≤ i) (hb : Below w.heap.size w W)
    (cl : Calls Tryd.prog 6 #[.slice a n c] w fun e w' => e = .returned (.slice a' n c') ∧ w' = W) :
    Calls Tryd.prog 4 #[.slice a n c, .int .i64 i] w fun e w' => e = .returned (.bool true) ∧ Below w.heap.size w w' := by
  have CL : Hid (Calls Tryd.prog 6 #[.slice a n c] w fun e w' => e = .returned (.slice a' n c') ∧ w' = W) := cl
  have hd : decide (n ≤ 1048576) = true := decide_eq_true (by omega)
  clear cl
  go_enter Tryd.func4, Tryd.ntmps4
  go_wp2_with fail
  refine (bytes9 a n c i w (by omega)).mono ?_
  rintro e w1 ⟨rfl, hw1⟩
  rw [hw1, hd]
  go_wp2_with fail
  refine CL.out.mono ?_
  rintro e w2 ⟨rfl, hw2⟩
  rw [hw2]
  go_wp2_with fail
  refine (zz_of _ _ _ _ W (fun w' => w' = W) (walkV_past c' n i W hi a')).mono ?_
  rintro e w3 ⟨rfl, hw3⟩
  rw [hw3]
  go_wp2
  go_ret
  exact ⟨rfl, hb⟩

set_option maxHeartbeats 1000000 in
/-- i within the text. -/
theorem law4_in (a : Option Addr) (c c' g i : Nat) (bs : List UInt8) (w W : World) (hn : bs.length ≤ 65536) (hi : i < bs.length) (hb : Below w.heap.size w W) (hcap : bs.length ≤ c') (hcm : c' ≤ 65536) (hH : Holds W g bs) (hV : Vars W)
    (cl : Calls Tryd.prog 6 #[.slice a bs.length c] w fun e w' => e = .returned (.slice (some ⟨g, 0, none⟩) bs.length c') ∧ w' = W) :
    Calls Tryd.prog 4 #[.slice a bs.length c, .int .i64 i] w fun e w' => e = .returned (.bool true) ∧ Below w.heap.size w w' := by
  have CL : Hid (Calls Tryd.prog 6 #[.slice a bs.length c] w fun e w' => e = .returned (.slice (some ⟨g, 0, none⟩) bs.length c') ∧ w' = W) := cl
  have hd : decide (bs.length ≤ 1048576) = true := decide_eq_true (by omega)
  have C1 : Hid (Calls Tryd.prog 7 #[.slice (some ⟨g, 0, none⟩) bs.length c', .int .i64 i] W fun e w' => e = .returned (.tuple #[.int .i64 (walk bs i).1, .int .i64 (walk bs i).2]) ∧ Below W.heap.size W w') :=
    zz_of _ _ _ _ W _ (walkV g c' i bs W hn hcap (by omega) hH hV)
  obtain ⟨b1, b2, b3, b4, b5⟩ := walk_bounds bs i hi
  have C2 : Hid (∀ W1, Below W.heap.size W W1 → Calls Tryd.prog 7 #[.slice (some ⟨g, 0, none⟩) (walk bs i).1 c', .int .i64 i] W1 fun e w' => e = .returned (.tuple #[.int .i64 (walk bs i).1, .int .i64 (walk bs i).2]) ∧ Below W1.heap.size W1 w') := by
    intro W1 h1
    have hl : (bs.take (walk bs i).1).length = (walk bs i).1 := by rw [List.length_take]; omega
    have := zz_of _ _ _ _ W1 _ (walkV g c' i (bs.take (walk bs i).1) W1 (by omega) (by omega) (by omega) ((hH.below h1).take _) (hV.below h1))
    rw [walk_take bs i hi, hl] at this
    exact this
  have hcell := hH i hi
  clear cl hV
  generalize (walk bs i).1 = E at *
  generalize (walk bs i).2 = D at *
  have hgW : g < W.heap.size := World.block_lt_of_cell? W ⟨g, i, none⟩ hcell
  clear hH
  by_cases h1 : bs.getD i 0 = 34
  · obtain ⟨e1, e2⟩ := b3 h1
    have t1 := tst_yes h1 34 rfl
    clear b3 b4 b5 h1
    generalize bs.getD i 0 = x at *
    subst e2
    go_enter Tryd.func4, Tryd.ntmps4
    go_wp2_with fail
    refine (bytes9 a _ c i w (by omega)).mono ?_
    rintro e w1 ⟨rfl, hw1⟩
    rw [hw1, hd]
    go_wp2_with fail
    refine CL.out.mono ?_
    rintro e w2 ⟨rfl, hw2⟩
    rw [hw2]
    go_wp2_with fail
    refine C1.out.mono ?_
    rintro e w3 ⟨rfl, hb3⟩
    have hcl3 := (hb3.cell (p := ⟨g, i, none⟩) hgW).trans hcell
    go_wp2_with fail
    refine (C2.out w3 hb3).mono ?_
    rintro e w4 ⟨rfl, hb4⟩
    go_wp2
    go_ret
    exact ⟨rfl, hb.trans ((hb3.trans (hb4.mono hb3.size)).mono hb.size)⟩
  · have t1 := tst_no h1 34 rfl
    by_cases h2 : bs.getD i 0 = 123 ∨ bs.getD i 0 = 91
    · obtain ⟨e1, e2, e3⟩ := b4 h1 h2
      have hop2 : ((((bs.getD i 0).toNat : Int) == 123) = true) ∨ ((((bs.getD i 0).toNat : Int) == 123) = false ∧ (((bs.getD i 0).toNat : Int) == 91) = true) := by
        rcases h2 with h | h
        · exact .inl (tst_yes h 123 rfl)
        · exact .inr ⟨tst_no (v := 123) (by rw [h]; decide) 123 rfl, tst_yes h 91 rfl⟩
      clear b3 b4 b5 h1 h2
      generalize bs.getD i 0 = x at *
      rcases hop2 with t123 | ⟨t123, t91⟩
      all_goals
        go_enter Tryd.func4, Tryd.ntmps4
        go_wp2_with fail
        refine (bytes9 a _ c i w (by omega)).mono ?_
        rintro e w1 ⟨rfl, hw1⟩
        rw [hw1, hd]
        go_wp2_with fail
        refine CL.out.mono ?_
        rintro e w2 ⟨rfl, hw2⟩
        rw [hw2]
        go_wp2_with fail
        refine C1.out.mono ?_
        rintro e w3 ⟨rfl, hb3⟩
        have hcl3 := (hb3.cell (p := ⟨g, i, none⟩) hgW).trans hcell
        go_wp2_with fail
        refine (C2.out w3 hb3).mono ?_
        rintro e w4 ⟨rfl, hb4⟩
        go_wp2
        go_ret
        exact ⟨rfl, hb.trans ((hb3.trans (hb4.mono hb3.size)).mono hb.size)⟩
    · have e2 := b5 h1 h2
      have t123 := tst_no (v := 123) (fun e => h2 (.inl e)) 123 rfl
      have t91 := tst_no (v := 91) (fun e => h2 (.inr e)) 91 rfl
      clear b3 b4 b5 h1 h2
      generalize bs.getD i 0 = x at *
      subst e2
      go_enter Tryd.func4, Tryd.ntmps4
      go_wp2_with fail
      refine (bytes9 a _ c i w (by omega)).mono ?_
      rintro e w1 ⟨rfl, hw1⟩
      rw [hw1, hd]
      go_wp2_with fail
      refine CL.out.mono ?_
      rintro e w2 ⟨rfl, hw2⟩
      rw [hw2]
      go_wp2_with fail
      refine C1.out.mono ?_
      rintro e w3 ⟨rfl, hb3⟩
      have hcl3 := (hb3.cell (p := ⟨g, i, none⟩) hgW).trans hcell
      go_wp2_with fail
      refine (C2.out w3 hb3).mono ?_
      rintro e w4 ⟨rfl, hb4⟩
      go_wp2
      go_ret
      exact ⟨rfl, hb.trans ((hb3.trans (hb4.mono hb3.size)).mono hb.size)⟩
end Go.Proofs.Qxb6602262aDoor

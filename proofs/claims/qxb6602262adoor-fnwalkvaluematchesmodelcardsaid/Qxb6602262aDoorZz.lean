/-
  Seat b6602262aD: zzContainer (12), which calls itself; zzIsScalarStop (13); zzWalk (8).
-/
import Derived.Test.Qxb6602262aDoorBounds
namespace Go.Proofs.Qxb6602262aDoor
open Go.RowKit

/-- Behind a container that ends at e: nothing more where none is open around it. -/
def Kk (bs : List UInt8) (e k m : Nat) : Nat × Nat := if k = 0 then (e, m) else cont (bs.drop e) e k m none

/-- What zzContainer hands back of the container that opens at i. -/
structure Cp (bs : List UInt8) (i e d : Nat) : Prop where
  lo : i < e
  hi : e ≤ bs.length
  d1 : 1 ≤ d
  dle : d ≤ e - i
  res : ∀ k dep, cont (bs.drop (i + 1)) (i + 1) (k + 1) (max dep (k + 1)) none = Kk bs e k (max dep (k + d))

/-- Where its loop stands. -/
structure Lp (bs : List UInt8) (i j inner : Nat) : Prop where
  lo : i < j
  hi : j ≤ bs.length
  le : inner + 1 ≤ j - i
  res : ∀ k dep, cont (bs.drop (i + 1)) (i + 1) (k + 1) (max dep (k + 1)) none = cont (bs.drop j) j (k + 1) (max dep (k + 1 + inner)) none

theorem Lp.zero (bs : List UInt8) (i : Nat) (h : i < bs.length) : Lp bs i (i + 1) 0 := ⟨by omega, by omega, by omega, fun _ _ => rfl⟩

theorem Lp.close {bs : List UInt8} {i j inner : Nat} (h : Lp bs i j inner) (hj : j < bs.length) (h1 : bs.getD j 0 ≠ 34) (h2 : ¬ (bs.getD j 0 = 123 ∨ bs.getD j 0 = 91)) (hx : bs.getD j 0 = 125 ∨ bs.getD j 0 = 93) : Cp bs i (j + 1) (inner + 1) := by
  have := h.lo; have := h.le
  refine ⟨by omega, by omega, by omega, by omega, fun k dep => ?_⟩
  rw [h.res, drop_cons hj, cont, if_neg h1, if_neg h2, if_pos hx]
  unfold Kk
  by_cases hk : k = 0
  · rw [if_pos hk, if_pos (by omega), show k + 1 + inner = k + (inner + 1) by omega]
  · rw [if_neg hk, if_neg (by omega), Nat.add_sub_cancel, show k + 1 + inner = k + (inner + 1) by omega]
theorem Lp.str {bs : List UInt8} {i j inner : Nat} (h : Lp bs i j inner) (hj : j < bs.length) (hx : bs.getD j 0 = 34) : Lp bs i (strEnd bs j) inner := by
  have hb := strEnd_bd bs j hj
  have := h.lo; have := h.le
  refine ⟨by omega, by omega, by omega, fun k dep => ?_⟩
  rw [h.res, drop_cons hj, cont, if_pos hx, cont_str]
  have hs := scan_le (bs.drop (j + 1)) (j + 1) false
  unfold strEnd
  rw [List.drop_drop, show j + 1 + (scan (bs.drop (j + 1)) (j + 1) false - (j + 1)) = scan (bs.drop (j + 1)) (j + 1) false by omega]
theorem Lp.inside {bs : List UInt8} {i j inner e d : Nat} (h : Lp bs i j inner) (hj : j < bs.length) (hx : bs.getD j 0 = 123 ∨ bs.getD j 0 = 91) (hC : Cp bs j e d) : Lp bs i e (max inner d) := by
  have h34 : bs.getD j 0 ≠ 34 := fun e => by rw [e] at hx; exact absurd hx (by decide)
  have := h.lo; have := h.le; have := hC.lo; have := hC.hi; have := hC.dle
  refine ⟨by omega, by omega, by omega, fun k dep => ?_⟩
  rw [h.res, drop_cons hj, cont, if_neg h34, if_pos hx, hC.res (k + 1) (max dep (k + 1 + inner))]
  unfold Kk
  rw [if_neg (by omega), show max (max dep (k + 1 + inner)) (k + 1 + d) = max dep (k + 1 + max inner d) by omega]
theorem Lp.other {bs : List UInt8} {i j inner : Nat} (h : Lp bs i j inner) (hj : j < bs.length) (h1 : bs.getD j 0 ≠ 34) (h2 : ¬ (bs.getD j 0 = 123 ∨ bs.getD j 0 = 91)) (h3 : ¬ (bs.getD j 0 = 125 ∨ bs.getD j 0 = 93)) : Lp bs i (j + 1) inner := by
  have := h.lo; have := h.le
  refine ⟨by omega, by omega, by omega, fun k dep => ?_⟩
  rw [h.res, drop_cons hj, cont, if_neg h1, if_neg h2, if_neg h3]
theorem Lp.past {bs : List UInt8} {i j inner : Nat} (h : Lp bs i j inner) (hj : ¬ j < bs.length) : Cp bs i bs.length (inner + 1) := by
  have := h.lo; have := h.le; have := h.hi
  refine ⟨by omega, by omega, by omega, by omega, fun k dep => ?_⟩
  have e : j = bs.length := by omega
  rw [h.res, e, List.drop_length, cont]
  unfold Kk
  rw [List.drop_length]
  by_cases hk : k = 0
  · rw [if_pos hk, show k + 1 + inner = k + (inner + 1) by omega]
  · rw [if_neg hk, cont, show k + 1 + inner = k + (inner + 1) by omega]

theorem Cp.walk {bs : List UInt8} {i e d : Nat} (h : Cp bs i e d) (hi : i < bs.length) (hx : bs.getD i 0 = 123 ∨ bs.getD i 0 = 91) : walk bs i = (e, d) := by
  have h34 : bs.getD i 0 ≠ 34 := fun e => by rw [e] at hx; exact absurd hx (by decide)
  rw [walk_at bs i hi, if_neg h34, if_pos hx, drop_cons hi, cont, if_neg h34, if_pos hx]
  have := h.res 0 0
  unfold Kk at this
  rw [if_pos rfl] at this
  rw [this, show max 0 (0 + d) = d by omega]

theorem ops_of {c : UInt8} (h : c = 123 ∨ c = 91) : (((c.toNat : Int) == 123) = true) ∨ (((c.toNat : Int) == 123) = false ∧ ((c.toNat : Int) == 91) = true) := by
  rcases h with h | h
  · exact .inl (tst_yes h 123 rfl)
  · exact .inr ⟨tst_no (v := 123) (by rw [h]; decide) 123 rfl, tst_yes h 91 rfl⟩
theorem cls_of {c : UInt8} (h : c = 125 ∨ c = 93) : (((c.toNat : Int) == 125) = true) ∨ (((c.toNat : Int) == 125) = false ∧ ((c.toNat : Int) == 93) = true) := by
  rcases h with h | h
  · exact .inl (tst_yes h 125 rfl)
  · exact .inr ⟨tst_no (v := 125) (by rw [h]; decide) 125 rfl, tst_yes h 93 rfl⟩

set_option maxHeartbeats 1000000 in
theorem zzCont (b c : Nat) (bs : List UInt8) (hn : bs.length ≤ 65536) : ∀ (m i : Nat) (w : World), i < bs.length → bs.length ≤ i + m → Holds w b bs →
    Calls Tryd.prog 12 #[.slice (some ⟨b, 0, none⟩) bs.length c, .int .i64 i] w fun e w' => ∃ E D : Nat, e = .returned (.tuple #[.int .i64 E, .int .i64 D]) ∧ Cp bs i E D ∧ w' = w := by
  intro m
  induction m with
  | zero => intro i w h1 h2; omega
  | succ m ih =>
    intro i w hi hm hc
    have IH : Hid (∀ (i : Nat) (w : World), i < bs.length → bs.length ≤ i + m → Holds w b bs →
      Calls Tryd.prog 12 #[.slice (some ⟨b, 0, none⟩) bs.length c, .int .i64 i] w fun e w' => ∃ E D : Nat, e = .returned (.tuple #[.int .i64 E, .int .i64 D]) ∧ Cp bs i E D ∧ w' = w) := ih
    have HC : Hid (Holds w b bs) := hc
    have h0 := Lp.zero bs i hi
    clear ih hc
    go_enter Tryd.func12, Tryd.ntmps12
    go_wp2_with fail
    go_loop [6, 7] (fun v j => ∃ k inner : Nat, k ≤ bs.length ∧ i < k ∧ inner + 1 ≤ k - i ∧ j = .int .i64 k ∧ v = .int .i64 inner ∧ Lp bs i k inner) (fun _ j => bs.length - (intOf j).toNat)
    case atStart => exact ⟨i + 1, 0, by omega, by omega, by omega, by go_num, rfl, h0⟩
    case round =>
      obtain ⟨k, inner, hk, hik, hin, rfl, rfl, hL⟩ := hrel
      clear h0
      by_cases hlt : k < bs.length
      · have hcl := HC.out k hlt
        by_cases h3 : bs.getD k 0 = 125 ∨ bs.getD k 0 = 93
        · have h1 : bs.getD k 0 ≠ 34 := fun e => by rw [e] at h3; exact absurd h3 (by decide)
          have h2 : ¬ (bs.getD k 0 = 123 ∨ bs.getD k 0 = 91) := fun e => by
            rcases h3 with h | h <;> rw [h] at e <;> exact absurd e (by decide)
          have hP := hL.close hlt h1 h2 h3
          have hcl2 := cls_of h3
          clear hL h1 h2 h3
          generalize bs.getD k 0 = x at *
          rcases hcl2 with t125 | ⟨t125, t93⟩
          all_goals
            go_wp2_with fail
            go_ret2
            exact ⟨k + 1, inner + 1, ret_pair (by omega) (by omega), hP, rfl⟩
        · have t125 := tst_no (v := 125) (fun e => h3 (.inl e)) 125 rfl
          have t93 := tst_no (v := 93) (fun e => h3 (.inr e)) 93 rfl
          by_cases h1 : bs.getD k 0 = 34
          · have hL' := hL.str hlt h1
            have hse := strEnd_bd bs k hlt
            have cS : Hid (Calls Tryd.prog 11 #[.slice (some ⟨b, 0, none⟩) bs.length c, .int .i64 k] w fun e w' => e = .returned (.int .i64 (strEnd bs k : Nat)) ∧ w' = w) := zzStr b c k bs w hn hlt HC.out
            have t34 := tst_yes h1 34 rfl
            have hle := hL'.le
            clear hL h1 h3
            generalize bs.getD k 0 = x at *
            generalize strEnd bs k = e at *
            go_wp2_with fail
            refine cS.out.mono ?_
            rintro e' w1 ⟨rfl, hw1⟩
            rw [hw1]
            clear hw1
            go_wp2_with fail
            go_round
            case rel => exact ⟨e, inner, by omega, by omega, hle, rfl, rfl, hL'⟩
            case measure => simp [intOf]; omega
          · have t34 := tst_no h1 34 rfl
            by_cases h2 : bs.getD k 0 = 123 ∨ bs.getD k 0 = 91
            · have cI : Hid (Calls Tryd.prog 12 #[.slice (some ⟨b, 0, none⟩) bs.length c, .int .i64 k] w fun e w' => ∃ E D : Nat, e = .returned (.tuple #[.int .i64 E, .int .i64 D]) ∧ Cp bs k E D ∧ w' = w) := IH.out k w hlt (by omega) HC.out
              have hop2 := ops_of h2
              have HI : Hid (∀ e d, Cp bs k e d → Lp bs i e (max inner d)) := fun e d h => hL.inside hlt h2 h
              clear hL h1 h2 h3
              generalize bs.getD k 0 = x at *
              rcases hop2 with t123 | ⟨t123, t91⟩
              all_goals
                go_wp2_with fail
                refine cI.out.mono ?_
                rintro e' w1 ⟨E, D, rfl, hP, hw1⟩
                rw [hw1]
                clear hw1
                have hL' := HI.out E D hP
                have g1 := hP.lo; have g2 := hP.hi; have g3 := hP.dle; have g4 := hL'.le
                by_cases hD : inner < D
                · go_wp2_with fail
                  go_round
                  case rel => exact ⟨E, D, by omega, by omega, by omega, rfl, rfl, by rw [show max inner D = D by omega] at hL'; exact hL'⟩
                  case measure => simp [intOf]; omega
                · go_wp2_with fail
                  go_round
                  case rel => exact ⟨E, inner, by omega, by omega, by omega, rfl, rfl, by rw [show max inner D = inner by omega] at hL'; exact hL'⟩
                  case measure => simp [intOf]; omega
            · have hL' := hL.other hlt h1 h2 h3
              have t123 := tst_no (v := 123) (fun e => h2 (.inl e)) 123 rfl
              have t91 := tst_no (v := 91) (fun e => h2 (.inr e)) 91 rfl
              clear hL h1 h2 h3
              generalize bs.getD k 0 = x at *
              go_wp2_with fail
              go_round
              case rel => exact ⟨k + 1, inner, by omega, by omega, by omega, by go_num, rfl, hL'⟩
              case measure => simp [intOf]; omega
      · have hP := hL.past hlt
        clear hL
        go_wp2_with fail
        go_ret2
        exact ⟨bs.length, inner + 1, ret_pair rfl (by omega), hP, rfl⟩

set_option maxHeartbeats 400000 in
theorem isStopW (c : UInt8) (w : World) : Calls Tryd.prog 13 #[.int .u8 c.toNat] w fun e w' => e = .returned (.bool (isStop c)) ∧ w' = w := by
  by_cases h1 : c = 44
  · subst h1; go_enter Tryd.func13, Tryd.ntmps13; go_wp2; go_ret; exact ⟨rfl, rfl⟩
  by_cases h2 : c = 125
  · subst h2; go_enter Tryd.func13, Tryd.ntmps13; go_wp2; go_ret; exact ⟨rfl, rfl⟩
  by_cases h3 : c = 93
  · subst h3; go_enter Tryd.func13, Tryd.ntmps13; go_wp2; go_ret; exact ⟨rfl, rfl⟩
  by_cases h4 : c = 32
  · subst h4; go_enter Tryd.func13, Tryd.ntmps13; go_wp2; go_ret; exact ⟨rfl, rfl⟩
  by_cases h5 : c = 9
  · subst h5; go_enter Tryd.func13, Tryd.ntmps13; go_wp2; go_ret; exact ⟨rfl, rfl⟩
  by_cases h6 : c = 10
  · subst h6; go_enter Tryd.func13, Tryd.ntmps13; go_wp2; go_ret; exact ⟨rfl, rfl⟩
  by_cases h7 : c = 13
  · subst h7; go_enter Tryd.func13, Tryd.ntmps13; go_wp2; go_ret; exact ⟨rfl, rfl⟩
  have hf : isStop c = false := by simp [isStop, h1, h2, h3, h4, h5, h6, h7]
  have t1 := tst_no h1 44 rfl
  have t2 := tst_no h2 125 rfl
  have t3 := tst_no h3 93 rfl
  have t4 := tst_no h4 32 rfl
  have t5 := tst_no h5 9 rfl
  have t6 := tst_no h6 10 rfl
  have t7 := tst_no h7 13 rfl
  clear h1 h2 h3 h4 h5 h6 h7
  go_enter Tryd.func13, Tryd.ntmps13
  go_wp2
  go_ret
  exact ⟨by rw [hf]; rfl, rfl⟩

def bInv (bs : List UInt8) (k r : Nat) : Prop := r = bare (bs.drop k) k
theorem bInv_go {bs : List UInt8} {k r : Nat} (h : bInv bs k r) (hk : k < bs.length) (hs : isStop (bs.getD k 0) = false) : bInv bs (k + 1) r := by
  unfold bInv at *
  rw [h, drop_cons hk, bare, hs]; rfl
theorem bInv_stop {bs : List UInt8} {k r : Nat} (h : bInv bs k r) (hk : k < bs.length) (hs : isStop (bs.getD k 0) = true) : r = k := by
  unfold bInv at h
  rw [h, drop_cons hk, bare, hs]; rfl
theorem bInv_past {bs : List UInt8} {k r : Nat} (h : bInv bs k r) (hk : k = bs.length) : r = bs.length := by
  unfold bInv at h
  rw [h, hk, List.drop_length, bare]

set_option maxHeartbeats 400000 in
theorem zzWalk_past (a : Option Addr) (n c : Nat) (i : Int) (w : World) (hi : (n : Int) ≤ i) :
    Calls Tryd.prog 8 #[.slice a n c, .int .i64 i] w fun e w' => e = .returned (.tuple #[.int .i64 n, .int .i64 0]) ∧ w' = w := by
  go_enter Tryd.func8, Tryd.ntmps8
  go_wp2_with fail
  go_ret2
  exact ⟨rfl, rfl⟩

set_option maxHeartbeats 400000 in
theorem zzWalk_in (b c i : Nat) (bs : List UInt8) (w : World) (hn : bs.length ≤ 65536) (hi : i < bs.length) (hc : Holds w b bs) :
    Calls Tryd.prog 8 #[.slice (some ⟨b, 0, none⟩) bs.length c, .int .i64 i] w fun e w' => e = .returned (.tuple #[.int .i64 (walk bs i).1, .int .i64 (walk bs i).2]) ∧ w' = w := by
  have hcell := hc i hi
  have hd0 : decide (bs.length ≤ i) = false := decide_eq_false (by omega)
  by_cases h1 : bs.getD i 0 = 34
  · have HW : Hid (walk bs i = (strEnd bs i, 0)) := by show _ = _; rw [walk_at bs i hi, if_pos h1]
    have cS : Hid (Calls Tryd.prog 11 #[.slice (some ⟨b, 0, none⟩) bs.length c, .int .i64 i] w fun e w' => e = .returned (.int .i64 (strEnd bs i : Nat)) ∧ w' = w) := zzStr b c i bs w hn hi hc
    have t34 := tst_yes h1 34 rfl
    clear h1 hc
    generalize bs.getD i 0 = x at *
    go_enter Tryd.func8, Tryd.ntmps8
    go_wp2_with fail
    refine cS.out.mono ?_
    rintro e' w1 ⟨rfl, hw1⟩
    rw [hw1]
    go_wp2_with fail
    go_ret2
    exact ⟨ret_pair (by rw [HW.out]) (by rw [HW.out]; rfl), rfl⟩
  · have t34 := tst_no h1 34 rfl
    by_cases h2 : bs.getD i 0 = 123 ∨ bs.getD i 0 = 91
    · have HW : Hid (∀ e d, Cp bs i e d → walk bs i = (e, d)) := fun e d h => h.walk hi h2
      have cI : Hid (Calls Tryd.prog 12 #[.slice (some ⟨b, 0, none⟩) bs.length c, .int .i64 i] w fun e w' => ∃ E D : Nat, e = .returned (.tuple #[.int .i64 E, .int .i64 D]) ∧ Cp bs i E D ∧ w' = w) := zzCont b c bs hn bs.length i w hi (by omega) hc
      have hop2 := ops_of h2
      clear h1 h2 hc
      generalize bs.getD i 0 = x at *
      rcases hop2 with t123 | ⟨t123, t91⟩
      all_goals
        go_enter Tryd.func8, Tryd.ntmps8
        go_wp2_with fail
        refine cI.out.mono ?_
        rintro e' w1 ⟨E, D, rfl, hP, hw1⟩
        rw [hw1]
        have hw := HW.out E D hP
        have HE : Hid (walk bs i = (E, D)) := hw
        clear hw hP
        go_wp2_with fail
        go_ret2
        exact ⟨ret_pair (by rw [HE.out]) (by rw [HE.out]), rfl⟩
    · have HW : Hid (walk bs i = (bare (bs.drop i) i, 0)) := by show _ = _; rw [walk_at bs i hi, if_neg h1, if_neg h2]
      have t123 := tst_no (v := 123) (fun e => h2 (.inl e)) 123 rfl
      have t91 := tst_no (v := 91) (fun e => h2 (.inr e)) 91 rfl
      have h0 : bInv bs i (bare (bs.drop i) i) := rfl
      have HC : Hid (Holds w b bs) := hc
      clear h1 h2 hc
      generalize bare (bs.drop i) i = r at *
      generalize bs.getD i 0 = x0 at hcell t34 t123 t91
      go_enter Tryd.func8, Tryd.ntmps8
      go_wp2_with fail
      go_loop [7] (fun j => ∃ k : Nat, k ≤ bs.length ∧ j = .int .i64 k ∧ bInv bs k r) (fun j => bs.length - (intOf j).toNat)
      case atStart => exact ⟨i, by omega, rfl, h0⟩
      case round =>
        obtain ⟨k, hk, rfl, hI⟩ := hrel
        clear hcell h0
        by_cases hlt : k < bs.length
        · have hcl := HC.out k hlt
          cases hs : isStop (bs.getD k 0) with
          | true =>
            have hr : Hid (r = k) := bInv_stop hI hlt hs
            have HS : Hid (isStop (bs.getD k 0) = true) := hs
            clear hI hs
            generalize bs.getD k 0 = x at *
            go_wp2_with (go_at_call 13; refine (isStopW x _).mono ?_; rintro e' w1 ⟨rfl, hw1⟩; rw [hw1, HS.out])
            go_ret2
            exact ⟨ret_pair (by rw [HW.out, hr.out]) (by rw [HW.out]; rfl), rfl⟩
          | false =>
            have hI' := bInv_go hI hlt hs
            have HS : Hid (isStop (bs.getD k 0) = false) := hs
            clear hI hs
            generalize bs.getD k 0 = x at *
            go_wp2_with (go_at_call 13; refine (isStopW x _).mono ?_; rintro e' w1 ⟨rfl, hw1⟩; rw [hw1, HS.out])
            go_round
            case rel => exact ⟨k + 1, hlt, by go_num, hI'⟩
            case measure => simp [intOf]; omega
        · have hr : Hid (r = bs.length) := bInv_past hI (by omega)
          clear hI
          go_wp2_with fail
          go_ret2
          exact ⟨ret_pair (by rw [HW.out, hr.out]) (by rw [HW.out]; rfl), rfl⟩
end Go.Proofs.Qxb6602262aDoor

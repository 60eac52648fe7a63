/-
  Seat b6602448aD: zzb1InDomain (7).
-/
import Derived.Test.Qxb6602448aDoorParse
namespace Go.Proofs.Qxb6602448aDoor
open Go.RowKit

/-- Does the text open as a number does? -/
def starts (bs : List UInt8) : Bool := bs.getD 0 0 == 45 || dig (bs.getD 0 0)

set_option maxHeartbeats 400000 in
theorem dom_none (a : Option Addr) (c : Nat) (w : World) : Calls Tryd.prog 7 #[.slice a 0 c] w fun e w' => e = .returned (.bool true) ∧ w' = w := by
  go_enter Tryd.func7, Tryd.ntmps7
  go_wp2
  go_ret
  exact ⟨rfl, rfl⟩

set_option maxHeartbeats 1000000 in
theorem dom (b off c : Nat) (bs : List UInt8) (w : World) (hn : bs.length ≤ 1048576) (h1 : 1 ≤ bs.length) (hc : Row w b off bs) :
    Calls Tryd.prog 7 #[.slice (some ⟨b, off, none⟩) bs.length c] w fun e w' => e = .returned (.bool (!starts bs || okN bs)) ∧ Below w.heap.size w w' := by
  have HP : Hid (Calls Tryd.prog 15 #[.slice (some ⟨b, off, none⟩) bs.length c] w (Said bs w)) := parse b off c bs w hn h1 hc
  have hc0 := hc 0 (by omega)
  rw [Nat.add_zero] at hc0
  unfold val at hc0
  have HS : Hid (starts bs = (bs.getD 0 0 == 45 || dig (bs.getD 0 0))) := rfl
  clear hc
  generalize bs.getD 0 0 = x at *
  have hz : ((bs.length : Int) == 0) = false := beq_eq_false_iff_ne.2 (by omega)
  by_cases h45 : x = 45
  · have t := tst_yes h45 45 rfl
    have tb : ((x.toNat : Int) != 45) = false := by simp only [bne, t]; rfl
    have HE : Hid (starts bs = true) := by show _ = _; rw [HS.out, h45]; rfl
    clear h45
    go_enter Tryd.func7, Tryd.ntmps7
    go_wp2_with fail
    refine HP.out.mono ?_
    rintro e w1 ⟨mn, v, wl, ex, rfl, hb, _⟩
    go_wp2_with fail
    go_ret
    exact ⟨by rw [HE.out]; rfl, hb⟩
  · have t := tst_no h45 45 rfl
    have tb : ((x.toNat : Int) != 45) = true := by simp only [bne, t]; rfl
    cases hd : dig x with
    | true =>
      have HE : Hid (starts bs = true) := by show _ = _; rw [HS.out, hd, Bool.or_true]
      clear h45
      go_enter Tryd.func7, Tryd.ntmps7
      go_wp2_with (go_at_call 13; refine (isDig13 x _).mono ?_; rintro e' w1 ⟨rfl, hw1⟩; rw [hw1, hd])
      refine HP.out.mono ?_
      rintro e w1 ⟨mn, v, wl, ex, rfl, hb, _⟩
      go_wp2_with fail
      go_ret
      exact ⟨by rw [HE.out]; rfl, hb⟩
    | false =>
      have HE : Hid (starts bs = false) := by show _ = _; rw [HS.out, hd, beq_eq_false_iff_ne.2 h45]; rfl
      clear h45
      go_enter Tryd.func7, Tryd.ntmps7
      go_wp2_with (go_at_call 13; refine (isDig13 x _).mono ?_; rintro e' w1 ⟨rfl, hw1⟩; rw [hw1, hd])
      go_ret
      exact ⟨by rw [HE.out]; rfl, Below.refl _ _⟩
end Go.Proofs.Qxb6602448aDoor

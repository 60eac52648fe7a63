/-
  Seat b6602448aD: zzb1Equal (11) at two slices that read the same.
-/
import Derived.Test.Qxb6602448aDoorApp
namespace Go.Proofs.Qxb6602448aDoor
open Go.RowKit

set_option maxHeartbeats 400000 in
theorem eq_nil (a a' : Option Addr) (c c' : Nat) (w : World) : Calls Tryd.prog 11 #[.slice a 0 c, .slice a' 0 c'] w fun e w' => e = .returned (.bool true) ∧ Below w.heap.size w w' := by
  go_enter Tryd.func11, Tryd.ntmps11
  go_wp2
  go_loop [5] (fun i => i = .int .i64 0) (fun _ => 0)
  case atStart => rfl
  case round =>
    subst hrel
    go_wp2
    go_ret
    exact ⟨rfl, Below.refl _ _⟩

set_option maxHeartbeats 1000000 in
theorem eq_some (b b' off off' c c' : Nat) (l : List UInt8) (w : World) (hl : l.length ≤ 4194304) (hr : Row w b off l) (hr' : Row w b' off' l) :
    Calls Tryd.prog 11 #[.slice (some ⟨b, off, none⟩) l.length c, .slice (some ⟨b', off', none⟩) l.length c'] w fun e w' => e = .returned (.bool true) ∧ Below w.heap.size w w' := by
  have HR : Hid (Row w b off l) := hr
  have HR' : Hid (Row w b' off' l) := hr'
  clear hr hr'
  go_enter Tryd.func11, Tryd.ntmps11
  go_wp2_with fail
  go_loopw [5] (fun i wr => ∃ k : Nat, k ≤ l.length ∧ i = .int .i64 k ∧ Below w.heap.size w wr) (fun i _ => l.length - (intOf i).toNat)
  case atStart => exact ⟨0, Nat.zero_le _, rfl, Below.refl _ _⟩
  case round =>
    obtain ⟨k, hk, rfl, hb⟩ := hrel
    by_cases hlt : k < l.length
    · have hc := HR.out.below hb k hlt
      have hc' := HR'.out.below hb k hlt
      unfold val at hc hc'
      generalize l.getD k 0 = x at *
      go_wp2_with fail
      go_quiet (fail)
      go_wp2_with fail
      go_roundw
      case rel => exact ⟨k + 1, hlt, by go_num, hb.trans ⟨rfl, rfl, rfl, Nat.le_refl _, fun _ _ => rfl⟩⟩
      case measure => simp [intOf]; omega
    · go_wp2_with fail
      go_ret
      exact ⟨rfl, hb⟩
end Go.Proofs.Qxb6602448aDoor

/-
  Seat b6602240aD: zzBytes (function 6) and sameLists (7).
-/
import Derived.Test.Qxb6602240aDoorProg
import Derived.Test.Qxb6602240aDoorPlain
import Derived.WalkKit
import Derived.WalkSpells
import Derived.WalkLawsBesides
import Derived.BigQuiet
import Derived.Deep.QuietTactic
namespace Go.Proofs.Qxb6602240aDoor
open Go.RowKit

set_option maxHeartbeats 400000 in
theorem bytes_yes (s : ByteArray) (w : World) (hs : s.size ≤ 1048576) :
    Calls Tryd.prog 6 #[.string s] w fun e w' => e = .returned (.bool true) ∧ w' = w := by
  go_enter Tryd.func6, Tryd.ntmps6
  go_wp2
  go_ret
  exact ⟨rfl, rfl⟩

set_option maxHeartbeats 400000 in
theorem bytes_no (s : ByteArray) (w : World) (hs : ¬ s.size ≤ 1048576) :
    Calls Tryd.prog 6 #[.string s] w fun e w' => e = .returned (.bool false) ∧ w' = w := by
  go_enter Tryd.func6, Tryd.ntmps6
  go_wp2
  go_ret
  exact ⟨rfl, rfl⟩

theorem eql24 (w : World) (a : Option Addr) (n c n' c' : Nat) : (binOp .eql 24 (.slice a n c) (.slice none n' c')).run Tryd.prog w = .ok (.bool a.isNone) w := Lib.run_eql_slice_nil w _ _ a n c n' c' Tryd.underlying24

set_option maxHeartbeats 400000 in
theorem same_nil (w : World) : Calls Tryd.prog 7 #[.slice none 0 0, .slice none 0 0] w fun e w' => e = .returned (.bool true) ∧ w' = w := by
  have q := eql24
  go_enter Tryd.func7, Tryd.ntmps7
  go_wp2
  refine wp_loop_rounds 1 ?_
  rw [rounds_succ]
  go_wp2
  go_ret
  exact ⟨rfl, rfl⟩

set_option maxHeartbeats 1000000 in
theorem same_some (g h n c c' : Nat) (xs : List ByteArray) (hn : xs.length = n) (hm : n ≤ maxLen) (w : World)
    (ha : ∀ k (_ : k < n), w.cell? ⟨g, k, none⟩ = some (.string (xs.getD k ByteArray.empty)))
    (hb : ∀ k (_ : k < n), w.cell? ⟨h, k, none⟩ = some (.string (xs.getD k ByteArray.empty))) :
    Calls Tryd.prog 7 #[.slice (some ⟨g, 0, none⟩) n c, .slice (some ⟨h, 0, none⟩) n c'] w fun e w' => e = .returned (.bool true) ∧ ∃ q, w' = w.drewN q := by
  have q := eql24
  unfold maxLen at hm
  go_enter Tryd.func7, Tryd.ntmps7
  go_wp2
  go_loopw [5] (fun i wr => ∃ k : Nat, k ≤ n ∧ i = .int .i64 k ∧ ∃ q, wr = w.drewN q) (fun i _ => n - (intOf i).toNat)
  case atStart => exact ⟨0, Nat.zero_le _, rfl, 0, rfl⟩
  case round =>
    obtain ⟨k, hk, rfl, q0, rfl⟩ := hrel
    by_cases hlt : k < n
    · have ca := ha k hlt
      have cb := hb k hlt
      clear ha hb
      go_wp2
      go_quiet (fail)
      go_wp2
      go_roundw
      case rel => exact ⟨k + 1, by omega, by go_num, _, rfl⟩
      case measure => simp [intOf]; omega
    · go_wp2
      go_ret
      exact ⟨rfl, q0, rfl⟩

/-- Two slices of the call's own that hold the same strings, each nil where it holds none. -/
theorem same_any (base : Nat) (ls : List (List UInt8)) (va vb : Value) (w : World) (hl : ls.length ≤ maxLen)
    (ha : w.ownsRow base 9 1 va ls.length (S ls)) (hb : w.ownsRow base 9 1 vb ls.length (S ls)) (na : ls = [] → va = .slice none 0 0) (nb : ls = [] → vb = .slice none 0 0) :
    Calls Tryd.prog 7 #[va, vb] w fun e w' => e = .returned (.bool true) ∧ ∃ q, w' = w.drewN q := by
  by_cases h0 : ls = []
  · rw [na h0, nb h0]
    exact (same_nil w).mono fun e w' ⟨he, hw⟩ => ⟨he, 0, hw⟩
  · have hpos : ls.length ≠ 0 := fun e => h0 (List.eq_nil_of_length_eq_zero e)
    have cells : ∀ g n c, (w.ownsRow base 9 1 (.slice (some ⟨g, 0, none⟩) n c) ls.length (S ls)) → ∀ k (_ : k < ls.length), w.cell? ⟨g, k, none⟩ = some (.string ((ls.map fun l => (⟨l.toArray⟩ : ByteArray)).getD k ByteArray.empty)) := by
      intro g n c h k hk
      have := h.cells (g := g) rfl k (.string ⟨ls[k].toArray⟩) (by simp [S, hk])
      rw [Addr.add_lit] at this
      simpa [hk] using this
    rcases ha.2 with ⟨_, e⟩ | ⟨g, cap, cur, rfl, _⟩
    · exact absurd e hpos
    rcases hb.2 with ⟨_, e⟩ | ⟨g', cap', cur', rfl, _⟩
    · exact absurd e hpos
    exact same_some g g' ls.length cap cap' _ (by simp) hl w (cells _ _ _ ha) (cells _ _ _ hb)

end Go.Proofs.Qxb6602240aDoor

/-
  Seat b6602448aD: the law FnWholeNumberMatchesPointModel (3).
-/
import Derived.Test.Qxb6602448aDoorWh
import Derived.Test.Qxb6602448aDoorMod2
import Derived.Test.Qxb6602448aDoorEq
namespace Go.Proofs.Qxb6602448aDoor
open Go.RowKit

set_option maxHeartbeats 400000 in
theorem law_long (a : Option Addr) (n c : Nat) (w : World) (hn : n ≤ 9223372036854775807) (h : ¬ n ≤ 1048576) :
    Calls Tryd.prog 3 #[.slice a n c] w fun e w' => e = .returned (.bool true) ∧ Below w.heap.size w w' := by
  go_enter Tryd.func3, Tryd.ntmps3
  go_wp2_with fail
  refine (bytes6 a n c _ hn).mono ?_
  rintro e w1 ⟨rfl, hw1⟩
  rw [hw1, decide_eq_false h]
  go_wp2_with fail
  go_ret
  exact ⟨rfl, Below.refl _ _⟩

/-- Both answers, side by side: what the last line says of them. -/
structure Same (w : World) (v v' : Value) (r : Option (List UInt8)) : Prop where
  a : Out w v r
  b : Out w v' r
  n : ∀ l, r = some l → l.length ≤ 4194304

theorem same_eq {w : World} {v v' : Value} {r : Option (List UInt8)} (h : Same w v v' r) : Calls Tryd.prog 11 #[v, v'] w fun e w' => e = .returned (.bool true) ∧ Below w.heap.size w w' := by
  cases r with
  | none =>
    have ha : v = .slice none 0 0 := h.a
    have hb : v' = .slice none 0 0 := h.b
    subst ha hb
    exact eq_nil none none 0 0 w
  | some l =>
    obtain ⟨b, off, c, rfl, hr⟩ := h.a
    obtain ⟨b', off', c', rfl, hr'⟩ := h.b
    exact eq_some b b' off off' c c' l w (h.n l rfl) hr hr'

set_option maxHeartbeats 1000000 in
/-- The law's own text, its callees' answers given. -/
theorem law_core (a : Option Addr) (n c : Nat) (w : World) (hn : n ≤ 1048576) (r : Option (List UInt8)) (bl : Bool)
    (cd : Calls Tryd.prog 7 #[.slice a n c] w fun e w' => e = .returned (.bool true) ∧ Below w.heap.size w w')
    (cl : ∀ W, Below w.heap.size w W → Calls Tryd.prog 8 #[.slice a n c] W fun e w' => ∃ V, e = .returned V ∧ Below W.heap.size W w' ∧
      Calls Tryd.prog 9 #[V] w' (fun e w2 => ∃ v, e = .returned (.tuple #[v, .bool bl]) ∧ Below w'.heap.size w' w2 ∧ Out w2 v r ∧
        Calls Tryd.prog 10 #[V] w2 (fun e w3 => ∃ v', e = .returned (.tuple #[v', .bool (Option.isNone r), .bool bl]) ∧ Below w2.heap.size w2 w3 ∧ Same w3 v v' r))) :
    Calls Tryd.prog 3 #[.slice a n c] w fun e w' => e = .returned (.bool true) ∧ Below w.heap.size w w' := by
  have q := eql22
  go_enter Tryd.func3, Tryd.ntmps3
  go_wp2_with fail
  refine (bytes6 a n c _ (by omega)).mono ?_
  rintro e w1 ⟨rfl, hw1⟩
  rw [hw1, decide_eq_true hn]
  clear hw1
  go_wp2_with fail
  refine cd.mono ?_
  rintro e w2 ⟨rfl, hb2⟩
  go_wp2_with fail
  refine (cl w2 hb2).mono ?_
  rintro e w3 ⟨V, rfl, hb3, c9⟩
  go_wp2_with fail
  refine c9.mono ?_
  rintro e w4 ⟨v, rfl, hb4, _, c10⟩
  go_wp2_with fail
  refine c10.mono ?_
  rintro e w5 ⟨v', rfl, hb5, hS⟩
  have HS : Hid (Same w5 v v' r) := hS
  have HB : Hid (Below w.heap.size w w5) := ((hb2.trans (hb3.mono hb2.size)).trans (hb4.mono (Nat.le_trans hb2.size hb3.size))).trans (hb5.mono (Nat.le_trans hb2.size (Nat.le_trans hb3.size hb4.size)))
  clear hb2 hb3 hb4 hb5 cd cl c9 c10
  cases r with
  | none =>
    have ha : v = .slice none 0 0 := hS.a
    have hb : v' = .slice none 0 0 := hS.b
    subst ha hb
    clear hS
    cases bl <;>
    (go_wp2_with fail
     refine (same_eq HS.out).mono ?_
     rintro e w6 ⟨rfl, hb6⟩
     go_wp2_with fail
     go_ret
     exact ⟨rfl, HB.out.trans (hb6.mono HB.out.size)⟩)
  | some l =>
    obtain ⟨b, off, c, rfl, hr⟩ := hS.a
    clear hr hS
    cases bl <;>
    (go_wp2_with fail
     refine (same_eq HS.out).mono ?_
     rintro e w6 ⟨rfl, hb6⟩
     go_wp2_with fail
     go_ret
     exact ⟨rfl, HB.out.trans (hb6.mono HB.out.size)⟩)

set_option maxHeartbeats 400000 in
theorem law_out (a : Option Addr) (n c : Nat) (w : World) (hn : n ≤ 1048576)
    (cd : Calls Tryd.prog 7 #[.slice a n c] w fun e w' => e = .returned (.bool false) ∧ Below w.heap.size w w') :
    Calls Tryd.prog 3 #[.slice a n c] w fun e w' => e = .returned (.bool true) ∧ Below w.heap.size w w' := by
  go_enter Tryd.func3, Tryd.ntmps3
  go_wp2_with fail
  refine (bytes6 a n c _ (by omega)).mono ?_
  rintro e w1 ⟨rfl, hw1⟩
  rw [hw1, decide_eq_true hn]
  clear hw1
  go_wp2_with fail
  refine cd.mono ?_
  rintro e w2 ⟨rfl, hb2⟩
  go_wp2_with fail
  go_ret
  exact ⟨rfl, hb2⟩

theorem res_ex (mn : Bool) (m : List UInt8) (wl : Nat) (p : Int) : ∃ r bl, Res mn m wl p r bl ∧ ∀ l, r = some l → l.length ≤ 4194304 := by
  rcases nz_or m with h | ⟨f, la, h⟩
  · exact ⟨_, _, res_zero h, fun l e => by cases e; simp⟩
  · by_cases c1 : (wl : Int) + p ≤ la
    · exact ⟨_, _, res_frac h c1, fun l e => by cases e⟩
    · by_cases c2 : 20 < (wl : Int) + p - f
      · exact ⟨_, _, res_great h c1 c2, fun l e => by cases e⟩
      · refine ⟨_, _, res_whole h c1 c2, fun l e => ?_⟩
        cases e
        have := digitsTo_length m f la (wl + p) h (by omega)
        have hs : (sgn mn).length ≤ 1 := by unfold sgn; split <;> simp
        rw [List.length_append]
        omega
theorem Out.below {w w' : World} {v : Value} {r : Option (List UInt8)} (h : Out w v r) (hb : Below w.heap.size w w') : Out w' v r := by
  cases r with
  | none => exact h
  | some l =>
    obtain ⟨b, off, c, e, hr⟩ := h
    exact ⟨b, off, c, e, hr.below hb⟩

theorem law_row (b off c : Nat) (bs : List UInt8) (w : World) (h1 : 1 ≤ bs.length) (hn : bs.length ≤ 1048576) (hr : Row w b off bs) (hv : Vars w) :
    Calls Tryd.prog 3 #[.slice (some ⟨b, off, none⟩) bs.length c] w fun e w' => e = .returned (.bool true) ∧ Below w.heap.size w w' := by
  have cd := dom b off c bs w hn h1 hr
  cases hd : (!starts bs || okN bs) with
  | false =>
    rw [hd] at cd
    exact law_out _ _ _ w hn cd
  | true =>
    rw [hd] at cd
    cases hs : starts bs with
    | false =>
      refine law_core _ _ _ w hn none false cd (fun W hW => ?_)
      refine (clone_some b off c bs W hn (hr.below hW)).mono ?_
      rintro e w' ⟨rfl, rfl⟩
      refine ⟨_, rfl, below_alloc _ _, ?_⟩
      refine (wh_no W.heap.size 0 bs.length bs _ h1 hn (holds_new W bs) hs).mono ?_
      rintro e w2 ⟨rfl, rfl⟩
      refine ⟨_, rfl, Below.refl _ _, rfl, ?_⟩
      refine (mod_no W.heap.size 0 bs.length bs _ h1 hn (holds_new W bs) hs).mono ?_
      rintro e w3 ⟨rfl, rfl⟩
      exact ⟨_, rfl, Below.refl _ _, ⟨rfl, rfl, fun l e => by cases e⟩⟩
    | true =>
      have hok : okN bs = true := by rw [hs] at hd; simpa using hd
      obtain ⟨r, bl, hres, hlen⟩ := res_ex (decide (J0 bs = 1)) (Mm bs) (WL bs) (expOf 1099511627776 bs)
      have h2 := J2_le bs h1
      have hml : (Mm bs).length ≤ bs.length := by
        have := Mm_length bs h2
        have hj := J_le bs
        unfold J2 at h2 hj
        have : J1 bs ≤ J2s bs := by unfold J2s; split <;> omega
        unfold J1 at this
        omega
      have hwl : WL bs ≤ bs.length := by have := WL_le bs h1; omega
      refine law_core _ _ _ w hn r bl cd (fun W hW => ?_)
      refine (clone_some b off c bs W hn (hr.below hW)).mono ?_
      rintro e w' ⟨rfl, rfl⟩
      refine ⟨_, rfl, below_alloc _ _, ?_⟩
      refine (wh W.heap.size 0 bs.length bs _ h1 hn (Nat.le_refl _) (by omega) (holds_new W bs) hs hok ((hv.below hW).below (below_alloc _ _))).mono ?_
      rintro e w2 ⟨v, bl', r', rfl, hb2, ho2, hr2⟩
      have e1 := expOf_two bs ((bs.length : Int) + 20) (by omega) (by omega)
      obtain ⟨rfl, rfl⟩ := hr2.one hres bs.length hml hwl (by
        rcases e1 with e | ⟨e, e'⟩ | ⟨e, e'⟩
        · exact .inl e
        · exact .inr (.inl ⟨e, e'⟩)
        · exact .inr (.inr ⟨e, e'⟩))
      refine ⟨v, rfl, hb2, ho2, ?_⟩
      refine (mod W.heap.size 0 bs.length bs _ h1 hn ((holds_new W bs).below hb2) hs hok).mono ?_
      rintro e w3 ⟨v', bl3, r3, rfl, hb3, ho3, hr3⟩
      obtain ⟨rfl, rfl⟩ := hr3.one hres bs.length hml hwl (.inl rfl)
      exact ⟨v', rfl, hb3, ⟨ho2.below hb3, ho3, hlen⟩⟩
end Go.Proofs.Qxb6602448aDoor

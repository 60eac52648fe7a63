/-
  Seat b6602262aD: walkValue (10) at a container; walkValue whole; ZZwalkValue (7).
-/
import Derived.Test.Qxb6602262aDoorWalkV
namespace Go.Proofs.Qxb6602262aDoor
open Go.RowKit

/-- Where walkValue's loop stands: at k, o brackets open, d the most. -/
structure Cv (bs : List UInt8) (R : Nat × Nat) (i k o d : Nat) : Prop where
  hk : k ≤ bs.length
  ho : o ≤ k
  hd : d ≤ k
  first : o = 0 → k = i
  res : cont (bs.drop k) k o d none = R

theorem Cv.str {bs : List UInt8} {R : Nat × Nat} {i k o d : Nat} (h : Cv bs R i k o d) (hk : k < bs.length) (hi : bs.getD i 0 = 123 ∨ bs.getD i 0 = 91) (hx : bs.getD k 0 = 34) : Cv bs R i (strEnd bs k) o d := by
  have hb := strEnd_bd bs k hk
  refine ⟨by omega, by have := h.ho; omega, by have := h.hd; omega, fun e => ?_, ?_⟩
  · have := h.first e
    subst this
    rw [hx] at hi
    exact absurd hi (by decide)
  · rw [← h.res, drop_cons hk, cont, if_pos hx, cont_str]
    unfold strEnd
    have hs := scan_le (bs.drop (k + 1)) (k + 1) false
    rw [List.drop_drop, show k + 1 + (scan (bs.drop (k + 1)) (k + 1) false - (k + 1)) = scan (bs.drop (k + 1)) (k + 1) false by omega]
theorem Cv.opening {bs : List UInt8} {R : Nat × Nat} {i k o d : Nat} (h : Cv bs R i k o d) (hk : k < bs.length) (hx : bs.getD k 0 = 123 ∨ bs.getD k 0 = 91) : Cv bs R i (k + 1) (o + 1) (max d (o + 1)) := by
  have h34 : bs.getD k 0 ≠ 34 := fun e => by rw [e] at hx; exact absurd hx (by decide)
  refine ⟨by omega, by have := h.ho; omega, by have := h.hd; have := h.ho; omega, fun e => by omega, ?_⟩
  rw [← h.res, drop_cons hk, cont, if_neg h34, if_pos hx]
theorem Cv.closing {bs : List UInt8} {R : Nat × Nat} {i k o d : Nat} (h : Cv bs R i k o d) (hk : k < bs.length) (hi : bs.getD i 0 = 123 ∨ bs.getD i 0 = 91) (h1 : bs.getD k 0 ≠ 34) (h2 : ¬ (bs.getD k 0 = 123 ∨ bs.getD k 0 = 91)) (hx : bs.getD k 0 = 125 ∨ bs.getD k 0 = 93) :
    1 ≤ o ∧ (o = 1 → R = (k + 1, d)) ∧ (o ≠ 1 → Cv bs R i (k + 1) (o - 1) d) := by
  have ho : 1 ≤ o := by
    by_cases e : o = 0
    · have := h.first e
      subst this
      exact absurd hi h2
    · omega
  refine ⟨ho, fun e => ?_, fun e => ⟨by omega, by have := h.ho; omega, by have := h.hd; omega, fun e2 => by omega, ?_⟩⟩
  · rw [← h.res, drop_cons hk, cont, if_neg h1, if_neg h2, if_pos hx, if_pos e]
  · rw [← h.res, drop_cons hk, cont, if_neg h1, if_neg h2, if_pos hx, if_neg e]
theorem Cv.other {bs : List UInt8} {R : Nat × Nat} {i k o d : Nat} (h : Cv bs R i k o d) (hk : k < bs.length) (hi : bs.getD i 0 = 123 ∨ bs.getD i 0 = 91) (h1 : bs.getD k 0 ≠ 34) (h2 : ¬ (bs.getD k 0 = 123 ∨ bs.getD k 0 = 91)) (h3 : ¬ (bs.getD k 0 = 125 ∨ bs.getD k 0 = 93)) : Cv bs R i (k + 1) o d := by
  refine ⟨by omega, by have := h.ho; omega, by have := h.hd; omega, fun e => ?_, ?_⟩
  · have := h.first e
    subst this
    exact absurd hi h2
  · rw [← h.res, drop_cons hk, cont, if_neg h1, if_neg h2, if_neg h3]
theorem Cv.past {bs : List UInt8} {R : Nat × Nat} {i k o d : Nat} (h : Cv bs R i k o d) (hk : ¬ k < bs.length) : R = (bs.length, d) := by
  have : k = bs.length := by have := h.hk; omega
  rw [← h.res, List.drop_eq_nil_of_le (by omega), cont, this]

theorem num_max (d o : Nat) : Value.int .i64 (max (d : Int) ((o : Int) + 1)) = .int .i64 ((max d (o + 1) : Nat) : Int) := by
  rw [show (max (d : Int) ((o : Int) + 1)) = ((max d (o + 1) : Nat) : Int) by omega]

set_option maxHeartbeats 1000000 in
theorem walkV_cont (b c i : Nat) (bs : List UInt8) (w : World) (hn : bs.length ≤ 65536) (hcap : bs.length ≤ c) (hi : i < bs.length) (hop : bs.getD i 0 = 123 ∨ bs.getD i 0 = 91) (hc : Holds w b bs) :
    Calls Tryd.prog 10 #[.slice (some ⟨b, 0, none⟩) bs.length c, .int .i64 i] w fun e w' => e = .returned (.tuple #[.int .i64 (cont (bs.drop i) i 0 0 none).1, .int .i64 (cont (bs.drop i) i 0 0 none).2]) ∧ w' = w := by
  have h0 : Cv bs (cont (bs.drop i) i 0 0 none) i i 0 0 := ⟨by omega, by omega, by omega, fun _ => rfl, rfl⟩
  generalize cont (bs.drop i) i 0 0 none = R at *
  have HC : Hid (Holds w b bs) := hc
  have HI : Hid (bs.getD i 0 = 123 ∨ bs.getD i 0 = 91) := hop
  have hcell := hc i hi
  have t0 : (((bs.getD i 0).toNat : Int) == 34) = false := tst_no (v := 34) (fun e => by rw [e] at hop; exact absurd hop (by decide)) 34 rfl
  have start : ((((bs.getD i 0).toNat : Int) == 123) = true) ∨ ((((bs.getD i 0).toNat : Int) == 123) = false ∧ (((bs.getD i 0).toNat : Int) == 91) = true) := by
    rcases hop with h | h
    · exact .inl (tst_yes h 123 rfl)
    · exact .inr ⟨tst_no (v := 123) (by rw [h]; decide) 123 rfl, tst_yes h 91 rfl⟩
  clear hc hop
  generalize bs.getD i 0 = x0 at hcell t0 start
  have hd0 : decide (bs.length ≤ i) = false := decide_eq_false (by omega)
  rcases start with t1 | ⟨t1, t2⟩
  all_goals
    go_enter Tryd.func10, Tryd.ntmps10
    go_wp2
    go_loop [1, 5, 6] (fun j dd oo => ∃ k o d : Nat, k ≤ bs.length ∧ o ≤ k ∧ d ≤ k ∧ j = .int .i64 k ∧ dd = .int .i64 d ∧ oo = .int .i64 o ∧ Cv bs R i k o d) (fun j _ _ => bs.length - (intOf j).toNat)
    case atStart => exact ⟨i, 0, 0, by omega, by omega, by omega, rfl, rfl, rfl, h0⟩
    case round =>
      obtain ⟨k, o, d, hk, ho, hd, rfl, rfl, rfl, hV⟩ := hrel
      clear hcell
      by_cases hlt : k < bs.length
      · have hcl := HC.out k hlt
        by_cases h1 : bs.getD k 0 = 34
        · have hV' := hV.str hlt HI.out h1
          have hse := strEnd_bd bs k hlt
          have cS : Hid (Calls Tryd.prog 14 #[.slice (some ⟨b, 0, none⟩) bs.length c, .int .i64 k] w fun e w' => e = .returned (.int .i64 (strEnd bs k : Nat)) ∧ w' = w) := strE ib b c k bs w hn hcap hlt h1 HC.out
          rw [h1] at hcl
          clear hV h0 h1
          generalize strEnd bs k = e at *
          go_wp2_with fail
          refine cS.out.mono ?_
          rintro e' w1 ⟨rfl, hw1⟩
          rw [hw1]
          clear hw1
          go_wp2
          go_round
          case rel => exact ⟨e, o, d, by omega, by omega, by omega, by go_num, rfl, rfl, hV'⟩
          case measure => simp [intOf]; omega
        · have t34 := tst_no h1 34 rfl
          by_cases h2 : bs.getD k 0 = 123 ∨ bs.getD k 0 = 91
          · have hV' := hV.opening hlt h2
            have hop2 : ((((bs.getD k 0).toNat : Int) == 123) = true) ∨ ((((bs.getD k 0).toNat : Int) == 123) = false ∧ (((bs.getD k 0).toNat : Int) == 91) = true) := by
              rcases h2 with h | h
              · exact .inl (tst_yes h 123 rfl)
              · exact .inr ⟨tst_no (v := 123) (by rw [h]; decide) 123 rfl, tst_yes h 91 rfl⟩
            clear hV h0 h1 h2
            generalize bs.getD k 0 = x at *
            rcases hop2 with t123 | ⟨t123, t91⟩
            all_goals
              go_wp2
              go_round
              case rel => exact ⟨k + 1, o + 1, max d (o + 1), by omega, by omega, by omega, by go_num, num_max d o, by go_num, hV'⟩
              case measure => simp [intOf]; omega
          · have t123 := tst_no (v := 123) (fun e => h2 (.inl e)) 123 rfl
            have t91 := tst_no (v := 91) (fun e => h2 (.inr e)) 91 rfl
            by_cases h3 : bs.getD k 0 = 125 ∨ bs.getD k 0 = 93
            · obtain ⟨ho1, hone, hmore⟩ := hV.closing hlt HI.out h1 h2 h3
              have hcl2 : ((((bs.getD k 0).toNat : Int) == 125) = true) ∨ ((((bs.getD k 0).toNat : Int) == 125) = false ∧ (((bs.getD k 0).toNat : Int) == 93) = true) := by
                rcases h3 with h | h
                · exact .inl (tst_yes h 125 rfl)
                · exact .inr ⟨tst_no (v := 125) (by rw [h]; decide) 125 rfl, tst_yes h 93 rfl⟩
              clear hV h0 h1 h2 h3
              generalize bs.getD k 0 = x at *
              by_cases ho2 : o = 1
              · have hR : Hid (R = (k + 1, d)) := hone ho2
                subst ho2
                clear hone hmore
                rcases hcl2 with t125 | ⟨t125, t93⟩
                all_goals
                  go_wp2
                  go_ret2
                  exact ⟨ret_pair (by rw [hR.out]; simp) (by rw [hR.out]), rfl⟩
              · have hV' := hmore ho2
                have hz : (((o : Int) - 1) == 0) = false := beq_eq_false_iff_ne.2 (by omega)
                clear hone hmore ho2
                rcases hcl2 with t125 | ⟨t125, t93⟩
                all_goals
                  go_wp2
                  go_round
                  case rel => exact ⟨k + 1, o - 1, d, by omega, by omega, by omega, by go_num, rfl, by go_num, hV'⟩
                  case measure => simp [intOf]; omega
            · have hV' := hV.other hlt HI.out h1 h2 h3
              have t125 := tst_no (v := 125) (fun e => h3 (.inl e)) 125 rfl
              have t93 := tst_no (v := 93) (fun e => h3 (.inr e)) 93 rfl
              clear hV h0 h1 h2 h3
              generalize bs.getD k 0 = x at *
              go_wp2
              go_round
              case rel => exact ⟨k + 1, o, d, by omega, by omega, by omega, by go_num, rfl, rfl, hV'⟩
              case measure => simp [intOf]; omega
      · have hR : Hid (R = (bs.length, d)) := hV.past hlt
        clear hV h0
        go_wp2
        go_ret2
        exact ⟨ret_pair (by rw [hR.out]) (by rw [hR.out]), rfl⟩

/-- walkValue, whole. -/
theorem walkV (b c i : Nat) (bs : List UInt8) (w : World) (hn : bs.length ≤ 65536) (hcap : bs.length ≤ c) (hcm : c ≤ 9223372036854775807) (hc : Holds w b bs) (hv : Vars w) :
    Calls Tryd.prog 10 #[.slice (some ⟨b, 0, none⟩) bs.length c, .int .i64 i] w fun e w' => e = .returned (.tuple #[.int .i64 (walk bs i).1, .int .i64 (walk bs i).2]) ∧ Below w.heap.size w w' := by
  by_cases hi : i < bs.length
  · rw [walk_at bs i hi]
    by_cases h1 : bs.getD i 0 = 34
    · rw [if_pos h1]
      exact (walkV_str b c i bs w hn hcap hi h1 hc).mono fun e w' ⟨he, hw⟩ => ⟨he, hw ▸ Below.refl _ _⟩
    · rw [if_neg h1]
      by_cases h2 : bs.getD i 0 = 123 ∨ bs.getD i 0 = 91
      · rw [if_pos h2]
        exact (walkV_cont b c i bs w hn hcap hi h2 hc).mono fun e w' ⟨he, hw⟩ => ⟨he, hw ▸ Below.refl _ _⟩
      · rw [if_neg h2]
        exact walkV_bare b c i bs w hn hcap hcm hi h1 (fun e => h2 (.inl e)) (fun e => h2 (.inr e)) hc hv
  · rw [walk_past bs i (by omega)]
    exact (walkV_past c bs.length i w (by omega) _).mono fun e w' ⟨he, hw⟩ => ⟨he, hw ▸ Below.refl _ _⟩

set_option maxHeartbeats 400000 in
/-- ZZwalkValue hands its arguments on. -/
theorem zz_of (v0 v1 : Value) (r d : Int) (w : World) (Q : World → Prop) (h : Calls Tryd.prog 10 #[v0, v1] w fun e w' => e = .returned (.tuple #[.int .i64 r, .int .i64 d]) ∧ Q w') :
    Calls Tryd.prog 7 #[v0, v1] w fun e w' => e = .returned (.tuple #[.int .i64 r, .int .i64 d]) ∧ Q w' := by
  have H : Hid (Calls Tryd.prog 10 #[v0, v1] w fun e w' => e = .returned (.tuple #[.int .i64 r, .int .i64 d]) ∧ Q w') := h
  clear h
  go_enter Tryd.func7, Tryd.ntmps7
  go_wp2_with fail
  refine H.out.mono ?_
  rintro e w1 ⟨rfl, hq⟩
  go_wp2
  go_ret2
  exact ⟨rfl, hq⟩
end Go.Proofs.Qxb6602262aDoor

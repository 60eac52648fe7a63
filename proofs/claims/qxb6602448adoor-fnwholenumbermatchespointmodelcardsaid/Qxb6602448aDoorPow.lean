/-
  Seat b6602448aD: powerOfTen (18).
-/
import Derived.Test.Qxb6602448aDoorSl
namespace Go.Proofs.Qxb6602448aDoor
open Go.RowKit

theorem take_next (l : List UInt8) (k : Nat) (h : k < l.length) : l.take (k + 1) = l.take k ++ [l.getD k 0] := by
  rw [List.take_succ_eq_append_getElem h]
  simp [List.getD, h]
theorem capv_step (cap : Int) (l : List UInt8) (k : Nat) (h : k < l.length) : capv cap (l.take (k + 1)) 0 = (if capv cap (l.take k) 0 < cap then capv cap (l.take k) 0 * 10 + (((l.getD k 0).toNat : Int) - 48) else capv cap (l.take k) 0) := by
  rw [take_next l k h, capv_snoc]
theorem dig_bd' {x : UInt8} (h : dig x = true) : 48 ≤ x.toNat ∧ x.toNat ≤ 57 := by unfold dig at h; simpa using h
theorem getD_mem (l : List UInt8) (k : Nat) (h : k < l.length) : l.getD k 0 ∈ l := by
  rw [List.getD, List.getElem?_eq_getElem h]
  exact List.getElem_mem h

theorem trim_sign (s ds : List UInt8) (hs : s = [] ∨ s = [43] ∨ s = [45]) (hd : ∀ c ∈ ds, dig c = true) : Lib.trimLeftS (s ++ ds) [43, 45] = ds := by
  have h0 : Lib.trimLeftS ds [43, 45] = ds := by
    cases ds with
    | nil => rfl
    | cons x xs =>
      have := dig_bd' (hd x (by simp))
      unfold Lib.trimLeftS
      rw [List.dropWhile_cons_of_neg]
      have h1 : x ≠ 43 := fun e => by rw [e] at this; have := this.1; revert this; decide
      have h2 : x ≠ 45 := fun e => by rw [e] at this; have := this.1; revert this; decide
      simp [h1, h2]
  rcases hs with rfl | rfl | rfl
  · exact h0
  · unfold Lib.trimLeftS at *
    rw [List.singleton_append, List.dropWhile_cons_of_pos (by decide)]; exact h0
  · unfold Lib.trimLeftS at *
    rw [List.singleton_append, List.dropWhile_cons_of_pos (by decide)]; exact h0

theorem ret_int' {k : IntKind} {a b : Int} (h : a = b) : Ending.returned (.int k a) = .returned (.int k b) := by rw [h]

set_option maxHeartbeats 1000000 in
theorem power (v : Value) (s ds : List UInt8) (lim : Nat) (w : World) (hP : Piece w v (s ++ ds)) (hs : s = [] ∨ s = [43] ∨ s = [45]) (hd : ∀ c ∈ ds, dig c = true) (hlen : ds.length ≤ 1048576) (hlim : lim ≤ 2000000) (ng : Bool) (hng : ng = true ↔ s = [45]) :
    Calls Tryd.prog 18 #[v, .int .i64 lim] w fun e w' => e = .returned (.int .i64 (if ng then - capv (lim + 1) ds 0 else capv (lim + 1) ds 0)) ∧ Below w.heap.size w w' := by
  have HP : Hid (Piece w v (s ++ ds)) := hP
  have HT : Hid (∀ W, Piece W v (s ++ ds) → Calls Tryd.prog 23 #[v, .string ⟨#[43, 45]⟩] W fun e w' => (∃ v', e = .returned v' ∧ Piece w' v' ds) ∧ Below W.heap.size W w') := fun W h => by
    have := trimLeft v (s ++ ds) ⟨#[43, 45]⟩ W h (by decide) (fun j b hb => by
      match j, hb with
      | 0, hb => simp at hb; subst hb; decide
      | 1, hb => simp at hb; subst hb; decide)
    refine this.mono ?_
    rintro e w' ⟨⟨v', rfl, hp⟩, hb⟩
    exact ⟨⟨v', rfl, by rw [← trim_sign s ds hs hd]; exact hp⟩, hb⟩
  have HD : Hid (∀ c ∈ ds, dig c = true) := hd
  obtain ⟨p, c, rfl, hc, hm⟩ := hP.form
  have hnl : (s ++ ds).length ≤ 1048577 := by
    rw [List.length_append]
    rcases hs with rfl | rfl | rfl <;> simp <;> omega
  have HSn : Hid (s ++ ds ≠ [] → ng = decide ((s ++ ds).getD 0 0 = 45)) := fun hne => by
    rw [Bool.eq_iff_iff, hng, decide_eq_true_eq]
    rcases hs with rfl | rfl | rfl
    · cases ds with
      | nil => exact absurd rfl hne
      | cons x xs =>
        have := dig_bd' (hd x (by simp))
        constructor
        · intro e2; cases e2
        · intro e2
          have e3 : x = 45 := e2
          rw [e3] at this; have := this.1; revert this; decide
    · simp [List.getD]
    · simp [List.getD]
  have HS0 : Hid (s ++ ds = [] → ng = false) := fun e => by
    rw [Bool.eq_false_iff]
    intro h
    rw [hng.1 h] at e; simp at e
  have HBd : Hid (∀ k, 0 ≤ capv (lim + 1) (ds.take k) 0 ∧ capv (lim + 1) (ds.take k) 0 ≤ ((lim : Int) + 1) * 10 + 9) := fun k => capv_bd _ (by omega) _ 0 (fun x hx => hd x (List.take_subset _ _ hx)) (by omega) (by omega)
  clear hP hs hd hng
  generalize s ++ ds = l at *
  go_enter Tryd.func18, Tryd.ntmps18
  go_wp2_with fail
  refine (HT.out _ HP.out).mono ?_
  rintro e w1 ⟨⟨v', rfl, hq⟩, hb⟩
  clear HT
  have HB : Hid (Below w.heap.size w w1) := hb
  have HP1 : Hid (Piece w1 (.slice p l.length c) l) := HP.out.below hb
  clear hb HP
  have HQ : Hid (Piece w1 v' ds) := hq
  obtain ⟨p', c', rfl, hc', hm'⟩ := hq.form
  clear hq
  go_wp2_with fail
  go_loopw [5, 11] (fun pw i wr => wr = w1 ∧ ∃ k : Nat, k ≤ ds.length ∧ i = .int .i64 k ∧ pw = .int .i64 (capv (lim + 1) (ds.take k) 0)) (fun _ i _ => ds.length - (intOf i).toNat)
  case atStart => exact ⟨rfl, 0, Nat.zero_le _, rfl, rfl⟩
  case round =>
    obtain ⟨hw, k, hk, rfl, rfl⟩ := hrel
    subst hw
    obtain ⟨hb0, hb1⟩ := HBd.out k
    by_cases hlt : k < ds.length
    · obtain ⟨bq, oq, cq, eq, hr⟩ := HQ.out.row (fun e => by rw [e] at hlt; simp at hlt)
      simp only [Value.slice.injEq] at eq
      obtain ⟨rfl, _, rfl⟩ := eq
      have hcl := hr k hlt
      unfold val at hcl
      obtain ⟨hd48, hd57⟩ := dig_bd' (HD.out _ (getD_mem ds k hlt))
      have HTk : Hid (_ = _) := capv_step (lim + 1) ds k hlt
      clear hr HBd HSn HS0 HD
      generalize ds.getD k 0 = x at *
      generalize capv (lim + 1) (ds.take k) 0 = ev at *
      by_cases hcap : ev < lim + 1
      · rw [if_pos hcap] at HTk
        have hle : ev ≤ lim := by omega
        clear hcap
        go_wp2_with fail
        go_roundw
        case rel => exact ⟨by trivial, k + 1, hlt, by go_num, by rw [HTk.out]⟩
        case measure => simp [intOf]; omega
      · rw [if_neg hcap] at HTk
        have hle : ¬ ev ≤ lim := by omega
        clear hcap
        go_wp2_with fail
        go_roundw
        case rel => exact ⟨by trivial, k + 1, hlt, by go_num, by rw [HTk.out]⟩
        case measure => simp [intOf]; omega
    · obtain rfl : k = ds.length := by omega
      rw [List.take_length] at hb0 hb1 ⊢
      clear HBd HD HQ
      generalize hev : capv (lim + 1) ds 0 = ev at *
      have HE : Hid (capv (lim + 1) ds 0 = ev) := hev
      clear hev
      by_cases hl0 : l = []
      · have e := HS0.out hl0
        subst e
        have hl1 : l.length = 0 := by rw [hl0]; rfl
        clear HSn HS0 HP1 hl0
        go_wp2_with fail
        go_ret
        exact ⟨ret_int' (by simp [HE.out]), HB.out⟩
      · have e := HSn.out hl0
        have hl1 : 0 < l.length := List.length_pos_iff.2 hl0
        obtain ⟨bq, oq, cq, eq, hr⟩ := HP1.out.row hl0
        simp only [Value.slice.injEq] at eq
        obtain ⟨rfl, _, rfl⟩ := eq
        have hcl := hr 0 hl1
        rw [Nat.add_zero] at hcl
        unfold val at hcl
        clear hr HP1 HSn HS0 hl0
        generalize l.getD 0 0 = x at *
        by_cases hx : x = 45
        · have t := tst_yes hx 45 rfl
          rw [decide_eq_true hx] at e
          subst e
          clear hx
          go_wp2_with fail
          go_ret
          exact ⟨ret_int' (by simp [HE.out]), HB.out⟩
        · have t := tst_no hx 45 rfl
          rw [decide_eq_false hx] at e
          subst e
          clear hx
          go_wp2_with fail
          go_ret
          exact ⟨ret_int' (by simp [HE.out]), HB.out⟩
end Go.Proofs.Qxb6602448aDoor

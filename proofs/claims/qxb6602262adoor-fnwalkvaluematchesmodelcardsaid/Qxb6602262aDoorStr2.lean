/-
  Seat b6602262aD: stringEnd (14): it counts the backslashes before each quote; the plain forward scan says the same.
-/
import Derived.Test.Qxb6602262aDoorStr
import Derived.Lib.IndexLaws
namespace Go.Proofs.Qxb6602262aDoor
open Go.RowKit

/-- Is the byte behind l escaped? -/
def stOf (l : List UInt8) : Bool := l.foldl (fun st c => !st && (c == 92)) false
theorem stOf_snoc (l : List UInt8) (c : UInt8) : stOf (l ++ [c]) = (!stOf l && (c == 92)) := by simp [stOf]

theorem scan_fold : ∀ (o : Nat) (l : List UInt8) (pos : Nat) (st : Bool), o ≤ l.length → (∀ k : Nat, k < o → l[k]? ≠ some 34) → scan l pos st = scan (l.drop o) (pos + o) ((l.take o).foldl (fun st c => !st && (c == 92)) st)
  | 0, l, pos, st, _, _ => by simp
  | o + 1, [], pos, st, h, _ => by simp at h
  | o + 1, c :: cs, pos, st, h, hq => by
    have hc : c ≠ 34 := fun e => hq 0 (by omega) (by simp [e])
    have ih := fun st' => scan_fold o cs (pos + 1) st' (by simpa using h) (fun k hk => by have := hq (k + 1) (by omega); simpa using this)
    rw [List.drop_succ_cons, List.take_succ_cons, List.foldl_cons, show pos + (o + 1) = pos + 1 + o by omega]
    cases st with
    | true => rw [scan, ih]; rfl
    | false =>
      rw [scan, if_neg hc]
      by_cases h92 : c = 92
      · rw [if_pos h92, ih, h92]; rfl
      · rw [if_neg h92, ih]
        have : (c == 92) = false := by simpa using h92
        rw [this]; rfl

theorem scan_none (l : List UInt8) (pos : Nat) (st : Bool) (hq : ∀ k : Nat, l[k]? ≠ some 34) : scan l pos st = pos + l.length := by
  rw [scan_fold l.length l pos st (Nat.le_refl _) (fun k _ => hq k), List.drop_length, scan]

theorem dropped (bs : List UInt8) (k o : Nat) (h : k + o < bs.length) : (bs.drop k).take (o + 1) = (bs.drop k).take o ++ [bs.getD (k + o) 0] := by
  rw [List.take_succ_eq_append_getElem (by rw [List.length_drop]; omega)]
  simp [List.getD, h]

/-- Where the outer loop stands: the search goes on from k; the byte before is a quote. -/
structure Se (bs : List UInt8) (r k : Nat) : Prop where
  lo : 1 ≤ k
  hi : k ≤ bs.length
  quote : bs.getD (k - 1) 0 = 34
  res : r = scan (bs.drop k) k false

theorem Se.none {bs : List UInt8} {r k : Nat} (h : Se bs r k) (hq : Lib.indexByte (bs.drop k) 34 = -1) : r = bs.length := by
  rw [h.res, scan_none _ _ _ (Lib.indexByte_none hq), List.length_drop]
  have := h.hi; omega

/-- A quote is found o bytes on. -/
structure Found (bs : List UInt8) (r k o : Nat) : Prop where
  room : k + o < bs.length
  at' : bs.getD (k + o) 0 = 34
  res : r = scan (bs.drop (k + o)) (k + o) (stOf ((bs.drop k).take o))

theorem Se.found {bs : List UInt8} {r k o : Nat} (h : Se bs r k) (hq : Lib.indexByte (bs.drop k) 34 = o) : Found bs r k o := by
  obtain ⟨h1, h2⟩ := Lib.indexByte_some hq
  have hr : k + o < bs.length := by
    rw [List.getElem?_drop] at h1
    exact (List.getElem?_eq_some_iff.1 h1).1
  refine ⟨hr, ?_, ?_⟩
  · rw [List.getElem?_drop] at h1
    rw [List.getD, h1]; rfl
  · rw [h.res, scan_fold o _ _ _ (by rw [List.length_drop]; omega) h2, List.drop_drop]
    rfl

theorem Found.yes {bs : List UInt8} {r k o : Nat} (h : Found bs r k o) (hs : stOf ((bs.drop k).take o) = false) : r = k + o + 1 := by
  rw [h.res, hs, drop_cons h.room, scan, if_neg (by rw [h.at']; decide), if_pos h.at']
theorem Found.no {bs : List UInt8} {r k o : Nat} (h : Found bs r k o) (hs : stOf ((bs.drop k).take o) = true) : Se bs r (k + o + 1) :=
  ⟨by omega, by have := h.room; omega, by rw [Nat.add_sub_cancel]; exact h.at', by rw [h.res, hs, drop_cons h.room, scan]⟩

/-- Where the inner loop stands: t backslashes have been counted. -/
structure Cnt (bs : List UInt8) (k o t : Nat) (esc : Bool) : Prop where
  le : t ≤ o
  eq : stOf ((bs.drop k).take o) = (esc != stOf ((bs.drop k).take (o - t)))

theorem Cnt.zero (bs : List UInt8) (k o : Nat) : Cnt bs k o 0 false := ⟨Nat.zero_le _, by simp⟩
theorem Cnt.more {bs : List UInt8} {k o t : Nat} {esc : Bool} (h : Cnt bs k o t esc) (hk : 1 ≤ k) (hq : bs.getD (k - 1) 0 = 34) (hr : k + o < bs.length) (hc : bs.getD (k + o - 1 - t) 0 = 92) : Cnt bs k o (t + 1) (!esc) := by
  have hne : t ≠ o := fun e => by
    subst e
    rw [show k + t - 1 - t = k - 1 by omega, hq] at hc
    exact absurd hc (by decide)
  have hle := h.le
  refine ⟨by omega, ?_⟩
  have e := h.eq
  rw [show o - t = (o - t - 1) + 1 by omega, dropped bs k (o - t - 1) (by omega), stOf_snoc, show k + (o - t - 1) = k + o - 1 - t by omega, hc] at e
  rw [e, show o - (t + 1) = o - t - 1 by omega]
  cases esc <;> cases stOf ((bs.drop k).take (o - t - 1)) <;> rfl
theorem Cnt.done {bs : List UInt8} {k o t : Nat} {esc : Bool} (h : Cnt bs k o t esc) (hr : k + o < bs.length) (hc : bs.getD (k + o - 1 - t) 0 ≠ 92) : stOf ((bs.drop k).take o) = esc := by
  have hle := h.le
  have e := h.eq
  by_cases ht : t = o
  · subst ht
    rw [Nat.sub_self] at e
    rw [e]; cases esc <;> rfl
  · rw [show o - t = (o - t - 1) + 1 by omega, dropped bs k (o - t - 1) (by omega), stOf_snoc, show k + (o - t - 1) = k + o - 1 - t by omega] at e
    have : (bs.getD (k + o - 1 - t) 0 == 92) = false := by simpa using hc
    rw [this, Bool.and_false] at e
    rw [e]; cases esc <;> rfl

/-- bytes.IndexByte at this dump, as stringEnd calls it. -/
def IB : Prop := ∀ (a : Addr) (n c : Nat) (l : List UInt8) (w : World), l.length = n → (∀ i, i < n → w.cell? (a.add i) = some (.int .u8 (l.getD i 0).toNat)) →
    Calls Tryd.prog 16 #[.slice (some a) n c, .int .u8 34] w fun e w' => e = .returned (.int .i64 (Lib.indexByte l 34)) ∧ w' = w

theorem indexByte_cases (l : List UInt8) (c : UInt8) : Lib.indexByte l c = -1 ∨ ∃ o : Nat, Lib.indexByte l c = o := by
  have := Lib.indexByte_ge l c
  by_cases h : Lib.indexByte l c = -1
  · exact .inl h
  · exact .inr ⟨(Lib.indexByte l c).toNat, by omega⟩

set_option maxHeartbeats 400000 in
theorem strE (ib : IB) (b c i : Nat) (bs : List UInt8) (w : World) (hn : bs.length ≤ 65536) (hcap : bs.length ≤ c) (hi : i < bs.length) (hq : bs.getD i 0 = 34) (hc : Holds w b bs) :
    Calls Tryd.prog 14 #[.slice (some ⟨b, 0, none⟩) bs.length c, .int .i64 i] w fun e w' => e = .returned (.int .i64 (strEnd bs i : Nat)) ∧ w' = w := by
  have h0 : Se bs (strEnd bs i) (i + 1) := ⟨by omega, by omega, by rw [Nat.add_sub_cancel]; exact hq, rfl⟩
  generalize strEnd bs i = r at *
  have HC : Hid (Holds w b bs) := hc
  clear hc hq
  go_enter Tryd.func14, Tryd.ntmps14
  go_wp2
  go_loop [1] (fun j => ∃ k : Nat, k ≤ bs.length ∧ j = .int .i64 k ∧ Se bs r k) (fun j => bs.length + 1 - (intOf j).toNat)
  case atStart => exact ⟨i + 1, by omega, by go_num, h0⟩
  case round =>
    obtain ⟨k, hk, rfl, hS⟩ := hrel
    clear h0 hi
    have hk1 := hS.lo
    have cib : ∀ (a : Addr) (c' : Nat), (k < bs.length → a = ⟨b, k, none⟩) → Calls Tryd.prog 16 #[.slice (some a) (bs.length - k) c', .int .u8 34] w fun e w' => e = .returned (.int .i64 (Lib.indexByte (bs.drop k) 34)) ∧ w' = w := by
      intro a c' ha
      refine ib a (bs.length - k) c' (bs.drop k) w (by rw [List.length_drop]) fun j hj => ?_
      rw [ha (by omega), Addr.add_lit]
      have := HC.out (k + j) (by omega)
      rw [this]
      simp [List.getD]
    have HIB : Hid (∀ (a : Addr) (c' : Nat), (k < bs.length → a = ⟨b, k, none⟩) → Calls Tryd.prog 16 #[.slice (some a) (bs.length - k) c', .int .u8 34] w fun e w' => e = .returned (.int .i64 (Lib.indexByte (bs.drop k) 34)) ∧ w' = w) := cib
    clear cib
    rcases indexByte_cases (bs.drop k) 34 with hix | ⟨o, hix⟩
    · have hr : Hid (r = bs.length) := hS.none hix
      have HX : Hid (Lib.indexByte (bs.drop k) 34 = -1) := hix
      clear hix hS
      go_wp2_with fail
      · refine (HIB.out _ _ (fun h => by exfalso; omega)).mono ?_
        rintro e w' ⟨rfl, hw'⟩
        subst hw'
        rw [HX.out]
        go_wp2
        go_ret
        exact ⟨ret_int (by rw [hr.out]), rfl⟩
      · refine (HIB.out _ _ (fun _ => rfl)).mono ?_
        rintro e w' ⟨rfl, hw'⟩
        subst hw'
        rw [HX.out]
        go_wp2
        go_ret
        exact ⟨ret_int (by rw [hr.out]), rfl⟩
    · have hF := hS.found hix
      have hqk := hS.quote
      have HQ : Hid (bs.getD (k - 1) 0 = 34) := hqk
      have HX : Hid (Lib.indexByte (bs.drop k) 34 = o) := hix
      have hroom := hF.room
      clear hix hS hqk
      go_wp2_with fail
      refine (HIB.out _ _ (fun _ => rfl)).mono ?_
      rintro e w' ⟨rfl, hw'⟩
      subst hw'
      rw [HX.out]
      clear HX HIB
      have hd : decide ((o : Int) < 0) = false := by simp
      go_wp2
      go_loop [6, 7] (fun e j => ∃ (m t : Nat) (esc : Bool), e = .bool esc ∧ j = .int .i64 m ∧ m + t + 1 = k + o ∧ t ≤ o ∧ Cnt bs k o t esc) (fun _ j => (intOf j).toNat)
      case atStart => exact ⟨k + o - 1, 0, false, rfl, by go_num, by omega, by omega, Cnt.zero _ _ _⟩
      case round =>
        obtain ⟨m, t, esc, rfl, rfl, hm, hto, hC⟩ := hrel
        have HM : Hid (m + t + 1 = k + o) := hm
        have hmlt : m < bs.length := by omega
        have hcell := HC.out m hmlt
        have em : k + o - 1 - t = m := by omega
        by_cases h92 : bs.getD m 0 = 92
        · have hC' := hC.more hk1 HQ.out hroom (by rw [em]; exact h92)
          have ht' := hC'.le
          have t1 := tst_yes h92 92 rfl
          have hm1 : 1 ≤ m := by omega
          clear hC h92 em hm
          generalize bs.getD m 0 = x at *
          go_wp2
          go_round
          case rel => exact ⟨m - 1, t + 1, !esc, by cases esc <;> rfl, by go_num, by have := HM.out; omega, ht', hC'⟩
          case measure => simp [intOf]; omega
        · have hD := hC.done hroom (by rw [em]; exact h92)
          have t1 := tst_no h92 92 rfl
          clear hC h92 em hm
          generalize bs.getD m 0 = x at *
          cases esc with
          | true =>
            have hS' := hF.no hD
            clear hD hF
            go_wp2
            go_round
            case rel => exact ⟨k + o + 1, by omega, by go_num, hS'⟩
            case measure => simp [intOf]; omega
          | false =>
            have hr : Hid (r = k + o + 1) := hF.yes hD
            clear hD hF
            go_wp2
            go_ret
            exact ⟨ret_int (by rw [hr.out]; omega), rfl⟩
end Go.Proofs.Qxb6602262aDoor

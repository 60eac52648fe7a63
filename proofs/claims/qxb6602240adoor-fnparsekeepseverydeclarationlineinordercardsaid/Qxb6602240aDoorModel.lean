/-
  Seat b6602240aD: modelParse (function 9): it gathers the kept lines in a slice of its own.
-/
import Derived.Test.Qxb6602240aDoorSame
namespace Go.Proofs.Qxb6602240aDoor
open Go.RowKit

theorem info9 : Tryd.prog.info? 9 = some Tryd.t9 := by kernel_rfl

/-- Where modelParse stands behind k bytes: the line at hand begins at a; D: the lines that are done. -/
def Inv (s : ByteArray) (a k : Nat) (D : List (List UInt8)) : Prop := (k ≤ s.size ∧ Mid s.data.toList a k D) ∨ (k = s.size + 1 ∧ D.filter keep = kept s.data.toList)

/-- The slice v, made since w0, holds the strings ls; nil where there is none; nothing older has turned. -/
structure Own (w0 w : World) (v : Value) (ls : List (List UInt8)) : Prop where
  own : w.ownsRow w0.heap.size 9 1 v ls.length (S ls)
  nil : ls = [] → v = .slice none 0 0
  bel : Below w0.heap.size w0 w

theorem Own.push {w0 w w1 : World} {o : Obj} {v v' : Value} {ls : List (List UInt8)} {x : ByteArray} (h : Own w0 w v ls)
    (h1 : w1.ownsRow w0.heap.size 9 1 v' (ls.length + 1) (S ls ++ [.string x])) (h2 : (w.alloc o).grownBy w1 v.ownBlock) : Own w0 w1 v' (ls ++ [x.data.toList]) where
  own := by rw [S_append, S_one, List.length_append]; exact h1
  nil := fun e => by simp at e
  bel := (h.bel.alloc (by have := h.bel.size; omega) o).grown h2 (by have := h.bel.size; simp; omega) (fun k e => (h.own.lt k e).1)

theorem keep_of (t : ByteArray) (h : 0 < t.size) : keep t.data.toList = ((t[0].toNat : Int) != 35) := by
  obtain ⟨⟨l⟩⟩ := t
  cases l with
  | nil => simp [ByteArray.size] at h
  | cons c l =>
    show (!(c :: l).isEmpty && !(([35] : List UInt8).isPrefixOf (c :: l))) = ((c.toNat : Int) != 35)
    rw [Bool.eq_iff_iff]
    simp [List.isPrefixOf]
    constructor
    · intro h e
      exact h (UInt8.toNat_inj.1 (by simp; omega))
    · intro h e
      subst e
      simp at h

theorem keep_none (t : ByteArray) (h : ¬ 0 < t.size) : keep t.data.toList = false := by
  have : t.data.toList = [] := List.eq_nil_of_length_eq_zero (by rw [← Lib.size_eq]; omega)
  rw [this]; rfl

theorem piece (s : ByteArray) (a k : Nat) : (s.extract a k).data.toList = (s.data.toList.take k).drop a := by
  rw [Lib.extract_data, List.drop_take]

/-- At a line's end the round leaves the line among those that are done. -/
theorem Inv.step {s : ByteArray} {a k : Nat} {D : List (List UInt8)} (h : Inv s a k D) (hk : k ≤ s.size) (hc : ∀ h : k < s.size, (s[k].toNat : Int) = 10) : Inv s (k + 1) (k + 1) (D ++ [(s.extract a k).data.toList]) := by
  rcases h with ⟨_, h⟩ | ⟨e, _⟩
  · rw [piece]
    by_cases hlt : k < s.size
    · refine .inl ⟨hlt, h.stop (by rw [← Lib.size_eq]; exact hlt) ?_⟩
      have := hc hlt
      exact UInt8.toNat_inj.1 (by show s[k].toNat = _; simp; omega)
    · exact .inr ⟨by omega, h.last (by rw [← Lib.size_eq]; omega)⟩
  · omega

theorem Inv.go {s : ByteArray} {a k : Nat} {D : List (List UInt8)} (h : Inv s a k D) (hk : k < s.size) (hc : ¬ (s[k].toNat : Int) = 10) : Inv s a (k + 1) D := by
  rcases h with ⟨_, h⟩ | ⟨e, _⟩
  · refine .inl ⟨hk, h.go (by rw [← Lib.size_eq]; exact hk) ?_⟩
    intro e
    exact hc (by show ((s.data.toList[k]'(by rw [← Lib.size_eq]; exact hk)).toNat : Int) = 10; rw [e]; rfl)
  · omega

theorem filter_yes (D : List (List UInt8)) (x : List UInt8) (h : keep x = true) : (D ++ [x]).filter keep = D.filter keep ++ [x] := by simp [h]
theorem filter_no (D : List (List UInt8)) (x : List UInt8) (h : keep x = false) : (D ++ [x]).filter keep = D.filter keep := by simp [h]

theorem apart_of {k n : Nat} (h : k < n) : ((k : Int) == (n : Int)) = false := beq_eq_false_iff_ne.2 (by omega)

set_option maxHeartbeats 400000 in
theorem model_any (s : ByteArray) (w : World) (hs : s.size ≤ 1048576) :
    Calls Tryd.prog 9 #[.string s] w fun e w' => ∃ v, e = .returned v ∧ Own w w' v (kept s.data.toList) := by
  go_enter Tryd.func9, Tryd.ntmps9
  go_wp2
  go_loopw [3, 4, 5] (fun o st i wr => ∃ (a k : Nat) (D : List (List UInt8)), k ≤ s.size + 1 ∧ a ≤ k ∧ D.length ≤ k ∧ st = .int .i64 a ∧ i = .int .i64 k ∧ Inv s a k D ∧ Own w wr o (D.filter keep)) (fun _ _ i _ => s.size + 1 - (intOf i).toNat)
  case atStart => exact ⟨0, 0, [], by omega, by omega, by simp, rfl, rfl, .inl ⟨Nat.zero_le _, Mid.zero _⟩, ⟨World.ownsRow_nil _ _ _ _, fun _ => rfl, Below.refl _ _⟩⟩
  case round =>
    obtain ⟨a, k, D, hk, ha, hD, rfl, rfl, hI, hO⟩ := hrel
    have hfl := List.length_filter_le keep D
    by_cases hle : k ≤ s.size
    · by_cases hend : ∀ h : k < s.size, (s[k].toNat : Int) = 10
      · have hI' : Inv s (k + 1) (k + 1) (D ++ [(s.extract a k).data.toList]) := hI.step hle hend
        have HZ : Hid ((s.extract a k).size = k - a) := by show _ = _; rw [ByteArray.size_extract]; omega
        have hcase : (∃ h : k < s.size, ((k : Int) == (s.size : Int)) = false ∧ ((s[k].toNat : Int) == 10) = true) ∨ ((k : Int) == (s.size : Int)) = true := by
          by_cases hlt : k < s.size
          · exact .inl ⟨hlt, apart_of hlt, beq_iff_eq.2 (hend hlt)⟩
          · exact .inr (beq_iff_eq.2 (by omega))
        clear hend hI
        by_cases h0 : 0 < k - a
        · have hp : 0 < (s.extract a k).size := by rw [HZ.out]; exact h0
          cases h35 : ((s.extract a k)[0].toNat : Int) != 35 with
          | true =>
            have HY : Hid (_ = _) := filter_yes D _ ((keep_of _ hp).trans h35)
            rcases hcase with ⟨hlt, hnb, h10⟩ | hge
            all_goals
              go_wp2_with (at_builtin; refine wpList_append_own _ rfl _ _ 24 rfl w.heap.size 9 Tryd.t9 (.string ByteArray.empty) 1 16 Tryd.underlying24 info9 rfl rfl rfl rfl (by decide) _ _ _ rfl (hO.own.alloc _) ⟨wr.heap.size, 0, none⟩ 1 1 [.string (s.extract a k)] rfl rfl ?c1 ?c2 ?c3 ?c4 ?c5 ?_)
              case c1 =>
                intro j u hj
                match j, hj with
                | 0, hj => simp at hj; subst hj; simp [Addr.add]
              case c2 => intro u hu; simp at hu; subst hu; rfl
              case c3 => unfold maxLen; omega
              case c4 => omega
              case c5 => have := hO.bel.size; simp; omega
              intro v' w1 hown' hgrow _
              have hO' := hO.push hown' hgrow
              clear hown' hgrow hO
              go_wp2
              go_roundw
              case rel => exact ⟨k + 1, k + 1, _, by omega, by omega, by simp; omega, by go_num, by go_num, hI', by rw [HY.out]; exact hO'⟩
              case measure => simp [intOf]; omega
          | false =>
            have HY : Hid (_ = _) := filter_no D _ ((keep_of _ hp).trans h35)
            rcases hcase with ⟨hlt, hnb, h10⟩ | hge
            all_goals
              go_wp2
              go_roundw
              case rel => exact ⟨k + 1, k + 1, _, by omega, by omega, by simp; omega, by go_num, by go_num, hI', by rw [HY.out]; exact hO⟩
              case measure => simp [intOf]; omega
        · have HY : Hid (_ = _) := filter_no D _ (keep_none (s.extract a k) (by rw [HZ.out]; exact h0))
          rcases hcase with ⟨hlt, hnb, h10⟩ | hge
          all_goals
            go_wp2
            go_roundw
            case rel => exact ⟨k + 1, k + 1, _, by omega, by omega, by simp; omega, by go_num, by go_num, hI', by rw [HY.out]; exact hO⟩
            case measure => simp [intOf]; omega
      · have hx : ∃ h : k < s.size, ¬ (s[k].toNat : Int) = 10 := Classical.not_forall.1 hend
        obtain ⟨hlt, hne⟩ := hx
        have hI' := hI.go hlt hne
        have h10 : ((s[k].toNat : Int) == 10) = false := beq_eq_false_iff_ne.2 hne
        have hnb := apart_of hlt
        clear hend hne hI
        go_wp2
        go_roundw
        case rel => exact ⟨a, k + 1, D, by omega, by omega, by omega, rfl, by go_num, hI', hO⟩
        case measure => simp [intOf]; omega
    · have hfin : Hid (D.filter keep = kept s.data.toList) := by
        rcases hI with ⟨h, _⟩ | ⟨_, h⟩
        · exact absurd h hle
        · exact h
      clear hI
      go_wp2
      go_ret
      exact ⟨_, rfl, hfin.out ▸ hO⟩
end Go.Proofs.Qxb6602240aDoor

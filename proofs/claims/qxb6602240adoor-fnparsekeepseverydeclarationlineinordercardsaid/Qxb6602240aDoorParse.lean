/-
  Seat b6602240aD: parse (function 13) and ZZparse (8): the kept lines, out of strings.Split's pieces.
-/
import Derived.Test.Qxb6602240aDoorModel
namespace Go.Proofs.Qxb6602240aDoor
open Go.RowKit

theorem ownsRow_lower {w : World} {b b' e size n : Nat} {v : Value} {xs : List Value} (h : w.ownsRow b' e size v n xs) (hb : b ≤ b') : w.ownsRow b e size v n xs := by
  obtain ⟨h1, h2⟩ := h
  refine ⟨h1, ?_⟩
  rcases h2 with h2 | ⟨g, cap, cur, hv, hg, r⟩
  · exact .inl h2
  · exact .inr ⟨g, cap, cur, hv, by omega, r⟩

theorem Own.lower {w0 w : World} {o : Obj} {v : Value} {ls : List (List UInt8)} (h : Own (w0.alloc o) w v ls) : Own w0 w v ls :=
  ⟨ownsRow_lower h.own (by simp), h.nil, ((Below.refl _ w0).alloc (Nat.le_refl _) o).trans (h.bel.mono (by simp))⟩

theorem piece_cell (s : ByteArray) (w : World) (k : Nat) (h : k < (pieces s).length) :
    (w.alloc (.cells ((pieces s).map Value.string).toArray 9)).cell? ⟨w.heap.size, k, none⟩ = some (.string (pieces s)[k]) := by
  rw [World.cell?_alloc_at _ _ _ _ rfl]
  simp [h]

theorem isEmpty_none (x : ByteArray) (h : x.toList.isEmpty = true) : keep x.data.toList = false := by
  rw [Lib.toList_data] at h
  unfold keep; rw [h]; rfl
theorem keep_pre (x : ByteArray) (h : x.toList.isEmpty = false) : keep x.data.toList = !Lib.hasPrefix x.data.toList [35] := by
  rw [Lib.toList_data] at h
  unfold keep; rw [h]; rfl

set_option maxHeartbeats 400000 in
theorem parse_of (s : ByteArray) (w : World) (hs : s.size ≤ 1048576)
    (hsp : Calls Tryd.prog 14 #[.string s, .string nl] w fun e w' => e = .returned (.slice (some ⟨w.heap.size, 0, none⟩) (Lib.countB s nl + 1) (Lib.countB s nl + 1)) ∧ w' = w.alloc (.cells ((pieces s).map Value.string).toArray 9))
    (hpre : ∀ (x : ByteArray) (W : World), Calls Tryd.prog 15 #[.string x, .string ⟨#[35]⟩] W fun e w' => e = .returned (.bool (Lib.hasPrefix x.data.toList [35])) ∧ w' = W) :
    Calls Tryd.prog 13 #[.string s] w fun e w' => ∃ v, e = .returned v ∧ Own w w' v (kept s.data.toList) := by
  have hcnt := Lib.countB_le nl (by decide) s.size s (Nat.le_refl _)
  have hlen := pieces_length s
  have hcell := piece_cell s w
  have HP := hpre
  clear hpre
  have HPH : Hid (∀ (x : ByteArray) (W : World), Calls Tryd.prog 15 #[.string x, .string ⟨#[35]⟩] W fun e w' => e = .returned (.bool (Lib.hasPrefix x.data.toList [35])) ∧ w' = W) := HP
  clear HP
  rw [← hlen] at hsp
  have hN : (pieces s).length ≤ 1048577 := by omega
  have HL : Hid ((pieces s).length = Lib.countB s nl + 1) := hlen
  clear hlen hcnt
  generalize hW : w.alloc (.cells ((pieces s).map Value.string).toArray 9) = W1 at *
  have HW : Hid (w.alloc (.cells ((pieces s).map Value.string).toArray 9) = W1) := hW
  have hsz : w.heap.size < W1.heap.size := by rw [← hW]; simp
  clear hW
  go_enter Tryd.func13, Tryd.ntmps13
  go_wp2_with fail
  refine hsp.mono ?_
  rintro e w1 ⟨rfl, hw1⟩
  subst hw1
  clear hsp
  go_wp2_with fail
  go_loopw [3, 9] (fun o i wr => ∃ k : Nat, k ≤ (pieces s).length ∧ i = .int .i64 k ∧ Own w1 wr o (keptTo s k)) (fun _ i _ => (pieces s).length - (intOf i).toNat)
  case atStart => exact ⟨0, Nat.zero_le _, rfl, ⟨World.ownsRow_nil _ _ _ _, fun _ => rfl, Below.refl _ _⟩⟩
  case round =>
    obtain ⟨k, hk, rfl, hO⟩ := hrel
    have hkl := keptTo_le s k
    by_cases hlt : k < (pieces s).length
    · have hc : wr.cell? ⟨w.heap.size, k, none⟩ = some (.string (pieces s)[k]) := (hO.bel.cell (p := ⟨w.heap.size, k, none⟩) hsz).trans (hcell k hlt)
      have HS : Hid (_ = _) := keptTo_succ s k hlt
      clear hcell
      generalize hx : (pieces s)[k] = x at *
      clear hx
      cases he : x.toList.isEmpty with
      | true =>
        have HK : Hid (_ = _) := isEmpty_none x he
        go_wp2
        go_roundw
        case rel => exact ⟨k + 1, hlt, by go_num, by rw [HS.out, HK.out]; exact hO⟩
        case measure => simp [intOf]; omega
      | false =>
        have hk1 := keep_pre x he
        cases hpr : Lib.hasPrefix x.data.toList [35] with
        | true =>
          have HK : Hid (keep x.data.toList = false) := by show _ = _; rw [hk1, hpr]; rfl
          clear hk1
          go_wp2_with (go_at_call 15; refine (HPH.out _ _).mono ?_; rintro e w' ⟨rfl, hw'⟩; subst hw'; rw [hpr])
          go_roundw
          case rel => exact ⟨k + 1, hlt, by go_num, by rw [HS.out, HK.out]; exact hO⟩
          case measure => simp [intOf]; omega
        | false =>
          have HK : Hid (keep x.data.toList = true) := by show _ = _; rw [hk1, hpr]; rfl
          clear hk1
          go_wp2_with (first
            | (go_at_call 15; refine (HPH.out _ _).mono ?_; rintro e w' ⟨rfl, hw'⟩; subst hw'; rw [hpr])
            | (at_builtin; refine wpList_append_own _ rfl _ _ 24 rfl w1.heap.size 9 Tryd.t9 (.string ByteArray.empty) 1 16 Tryd.underlying24 info9 rfl rfl rfl rfl (by decide) _ _ _ rfl (hO.own.alloc _) ⟨_, 0, none⟩ 1 1 [.string x] rfl rfl ?c1 ?c2 ?c3 ?c4 ?c5 ?_))
          case c1 =>
            intro j u hj
            match j, hj with
            | 0, hj => simp at hj; subst hj; simp [Addr.add]
          case c2 => intro u hu; simp at hu; subst hu; rfl
          case c3 => unfold maxLen; omega
          case c4 => omega
          case c5 => have := hO.bel.size; simp; omega
          intro v' w2 hown' hgrow _
          have hO' := hO.push hown' hgrow
          clear hown' hgrow hO
          go_wp2
          go_roundw
          case rel => exact ⟨k + 1, hlt, by go_num, by rw [HS.out, HK.out]; exact hO'⟩
          case measure => simp [intOf]; omega
    · have e : k = (pieces s).length := by omega
      have HE : Hid (keptTo s k = kept s.data.toList) := by show _ = _; rw [e]; exact keptTo_all s
      clear e
      go_wp2
      go_ret
      refine ⟨_, rfl, ?_⟩
      rw [← HE.out]
      exact Own.lower (o := _) (HW.out ▸ hO)

theorem zzparse_of (s : ByteArray) (w : World) (h : Calls Tryd.prog 13 #[.string s] w fun e w' => ∃ v, e = .returned v ∧ Own w w' v (kept s.data.toList)) :
    Calls Tryd.prog 8 #[.string s] w fun e w' => ∃ v, e = .returned v ∧ Own w w' v (kept s.data.toList) := by
  have H : Hid (Calls Tryd.prog 13 #[.string s] w fun e w' => ∃ v, e = .returned v ∧ Own w w' v (kept s.data.toList)) := h
  clear h
  go_enter Tryd.func8, Tryd.ntmps8
  go_wp2_with fail
  refine H.out.mono ?_
  rintro e w1 ⟨v, rfl, hO⟩
  go_wp2
  go_ret
  exact ⟨_, rfl, hO⟩
end Go.Proofs.Qxb6602240aDoor

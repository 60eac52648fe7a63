/-
  Seat b6602448aD: zzb1ParseNumber (15).
-/
import Derived.Test.Qxb6602448aDoorOwn
namespace Go.Proofs.Qxb6602448aDoor
open Go.RowKit

theorem J0_lt (bs : List UInt8) : J0 bs ≤ 1 := by unfold J0; split <;> omega
theorem WL_le (bs : List UInt8) (h1 : 1 ≤ bs.length) : J0 bs + WL bs ≤ bs.length := by
  have := rl_le bs (J0 bs); have := J0_lt bs; unfold WL; omega
theorem ok_w0 (bs : List UInt8) (h : WL bs = 0) : okN bs = false := by simp [okN, h]
theorem ok_lead (bs : List UInt8) (h : 1 < WL bs) (h2 : bs.getD (J0 bs) 0 = 48) : okN bs = false := by
  have e : (bs.getD (J0 bs) 0 == 48) = true := by rw [h2]; rfl
  simp only [okN, h, e, decide_true, Bool.and_true, Bool.not_true, Bool.and_false, Bool.false_and]
theorem ok_f0 (bs : List UInt8) (h : Dot bs = true) (h2 : FL bs = 0) : okN bs = false := by simp [okN, h, h2]
theorem ok_x0 (bs : List UInt8) (h : Ex bs = true) (h2 : XL bs = 0) : okN bs = false := by simp [okN, h, h2]
theorem ok_xend (bs : List UInt8) (h : Ex bs = true) (h2 : J4 bs + XL bs ≠ bs.length) : okN bs = false := by simp [okN, h, h2]
theorem ok_end (bs : List UInt8) (h : Ex bs = false) (h2 : J2 bs ≠ bs.length) : okN bs = false := by simp [okN, h, h2]
theorem ok_yes (bs : List UInt8) (h1 : WL bs ≠ 0) (h2 : ¬ (1 < WL bs ∧ bs.getD (J0 bs) 0 = 48)) (h3 : Dot bs = true → FL bs ≠ 0) (h4 : Ex bs = true → XL bs ≠ 0 ∧ J4 bs + XL bs = bs.length) (h5 : Ex bs = false → J2 bs = bs.length) : okN bs = true := by
  unfold okN
  have e1 : (WL bs == 0) = false := by simpa using h1
  have e2 : (decide (1 < WL bs) && (bs.getD (J0 bs) 0 == 48)) = false := by
    rw [Bool.eq_false_iff]; intro h; simp at h; exact h2 ⟨h.1, by simpa [List.getD] using h.2⟩
  have e3 : (Dot bs && (FL bs == 0)) = false := by
    cases hd : Dot bs with
    | false => rfl
    | true => have := h3 hd; simpa using this
  rw [e1, e2, e3]
  cases he : Ex bs with
  | false => have := h5 he; simp [this]
  | true => have := h4 he; simp [this]

theorem J2_le (bs : List UInt8) (h1 : 1 ≤ bs.length) : J2 bs ≤ bs.length := by
  have hw := WL_le bs h1
  unfold J2 FL J2s J1
  cases hd : Dot bs with
  | false => simp; omega
  | true =>
    have hl : J0 bs + WL bs < bs.length := by
      by_cases h : J0 bs + WL bs < bs.length
      · exact h
      · unfold Dot J1 at hd
        rw [List.getElem?_eq_none (by omega)] at hd
        cases hd
    have := rl_le bs (J0 bs + WL bs + 1)
    simp
    omega

/-- What the call says, whatever became of the run. -/
def Said (bs : List UInt8) (w : World) (e : Ending) (w' : World) : Prop :=
  ∃ (mn : Bool) (v : Value) (wl ex : Int), e = .returned (.tuple #[.bool mn, v, .int .i64 wl, .int .i64 ex, .bool (okN bs)]) ∧ Below w.heap.size w w' ∧
    (okN bs = true → mn = decide (J0 bs = 1) ∧ wl = WL bs ∧ ex = expOf 1099511627776 bs ∧ OwnB w w' v (Mm bs))

theorem said_no {bs : List UInt8} {w w' : World} {mn : Bool} {v : Value} {wl ex : Int} (h : okN bs = false) (hb : Below w.heap.size w w') : Said bs w (.returned (.tuple #[.bool mn, v, .int .i64 wl, .int .i64 ex, .bool false])) w' :=
  ⟨mn, v, wl, ex, by rw [h], hb, fun e => by rw [h] at e; cases e⟩

theorem take_more (bs : List UInt8) (j k : Nat) (h : j + k < bs.length) : (bs.drop j).take (k + 1) = (bs.drop j).take k ++ [bs.getD (j + k) 0] := by
  rw [List.take_succ_eq_append_getElem (by rw [List.length_drop]; omega)]
  simp [List.getD, h]
theorem capv_more (cap : Int) (bs : List UInt8) (j k : Nat) (h : j + k < bs.length) : capv cap ((bs.drop j).take (k + 1)) 0 = (if capv cap ((bs.drop j).take k) 0 < cap then capv cap ((bs.drop j).take k) 0 * 10 + (((bs.getD (j + k) 0).toNat : Int) - 48) else capv cap ((bs.drop j).take k) 0) := by
  rw [take_more bs j k h, capv_snoc]
theorem dig_bd {x : UInt8} (h : dig x = true) : 48 ≤ x.toNat ∧ x.toNat ≤ 57 := by unfold dig at h; simpa using h
theorem get?_of (bs : List UInt8) (j : Nat) (h : j < bs.length) : bs[j]? = some (bs.getD j 0) := by simp [List.getD, h]

set_option maxHeartbeats 8000000 in
set_option maxRecDepth 100000 in
theorem parse (b off c : Nat) (bs : List UInt8) (w : World) (hn : bs.length ≤ 1048576) (h1 : 1 ≤ bs.length) (hc : Row w b off bs) :
    Calls Tryd.prog 15 #[.slice (some ⟨b, off, none⟩) bs.length c] w (Said bs w) := by
  have HC : Hid (Row w b off bs) := hc
  have hc0 := hc 0 (by omega)
  rw [Nat.add_zero] at hc0
  unfold val at hc0
  have hJ1 : Hid (bs.getD 0 0 = 45 → J0 bs = 1) := fun e => by unfold J0; rw [if_pos (by rw [get?_of bs 0 (by omega), e])]
  have hJ0 : Hid (bs.getD 0 0 ≠ 45 → J0 bs = 0) := fun e => by
    unfold J0; rw [if_neg]
    rw [get?_of bs 0 (by omega)]
    intro hh; exact e (Option.some.inj hh)
  generalize bs.getD 0 0 = x0 at *
  clear hc
  go_enter Tryd.func15, Tryd.ntmps15
  go_upto_if 26 with fail
  go_cut [7, 8] (fun m j wx => ∃ (mn : Bool) (j0 : Nat), m = .bool mn ∧ j = .int .i64 j0 ∧ w = wx ∧ mn = decide (J0 bs = 1) ∧ j0 = J0 bs)
  case first =>
    as_aux_lemma =>
      by_cases h45 : x0 = 45
      · have t := tst_yes h45 45 rfl
        have HE : Hid (J0 bs = 1) := hJ1.out h45
        clear h45
        go_wp2_with fail
        go_meet
        case rel => exact ⟨true, 1, rfl, rfl, rfl, by rw [HE.out]; rfl, HE.out.symm⟩
      · have t := tst_no h45 45 rfl
        have HE : Hid (J0 bs = 0) := hJ0.out h45
        clear h45
        go_wp2_with fail
        go_meet
        case rel => exact ⟨false, 0, rfl, rfl, rfl, by rw [HE.out]; rfl, HE.out.symm⟩
  case rest =>
    obtain ⟨mn, j0, rfl, rfl, rfl, hmn, hj0⟩ := hcut
    have mk := make_run bs.length (by omega)
    have hO0 := OwnB.made w bs.length (by omega)
    have hj0l := J0_lt bs
    rw [← hj0] at hj0l
    have hwl := WL_le bs h1
    rw [← hj0] at hwl
    have HMN : Hid (mn = decide (J0 bs = 1)) := hmn
    have HJ0 : Hid (j0 = J0 bs) := hj0
    clear hmn hj0 hc0 hJ1 hJ0
    have HD : Hid (∀ k, k < WL bs → dig (bs.getD (j0 + k) 0) = true) := fun k hk => by rw [HJ0.out]; exact rl_dig bs (J0 bs) k hk
    have HDs : Hid (j0 + WL bs < bs.length → dig (bs.getD (j0 + WL bs) 0) = false) := fun hk => by rw [HJ0.out] at hk ⊢; exact rl_stop bs (J0 bs) hk
    generalize hw : WL bs = wl at hwl HD HDs
    have HWL : Hid (WL bs = wl) := hw
    clear hw
    go_upto_block 0 with fail
    clear mk
    go_cut [8, 9] (fun j v wx => j = .int .i64 ((j0 + wl : Nat) : Int) ∧ OwnB w wx v ((bs.drop j0).take wl))
    case first =>
      as_aux_lemma =>
        go_wp2_with fail
        go_loopw [8, 9] (fun j v wr => ∃ k : Nat, k ≤ wl ∧ j = .int .i64 ((j0 + k : Nat) : Int) ∧ OwnB w wr v ((bs.drop j0).take k)) (fun j _ _ => bs.length - (intOf j).toNat)
        case atStart => exact ⟨0, by omega, by simp, by simpa using hO0⟩
        case round =>
          obtain ⟨k, hk, rfl, hO⟩ := hrel
          clear hO0
          have hR := HC.out.below hO.bel
          by_cases hlt : k < wl
          · have hcl := hR (j0 + k) (by omega)
            have hdg := HD.out k hlt
            have HT : Hid (_ = _) := take_more bs j0 k (by omega)
            have HL : Hid (((bs.drop j0).take k).length = k) := by show _ = _; rw [List.length_take, List.length_drop]; omega
            unfold val at hcl
            clear hR
            generalize bs.getD (j0 + k) 0 = x at *
            go_wp2_with (first
              | (go_at_call 13; refine (isDig13 x _).mono ?_; rintro e' w1 ⟨rfl, hw1⟩; rw [hw1, hdg])
              | (at_builtin; refine wpList_append_own _ rfl _ _ 22 rfl w.heap.size 5 Tryd.t5 (.int .u8 0) 1 1 Tryd.underlying22 info5' rfl rfl rfl rfl (by decide) _ _ _ rfl (hO.own.alloc _) ⟨wr.heap.size, 0, none⟩ 1 1 [.int .u8 x.toNat] rfl rfl ?c1 ?c2 ?c3 ?c4 ?c5 ?_))
            case c1 =>
              intro j u hj
              match j, hj with
              | 0, hj => simp at hj; subst hj; simp [Addr.add]
            case c2 => intro u hu; simp at hu; subst hu; rfl
            case c3 => rw [HL.out]; unfold maxLen; omega
            case c4 => rw [HL.out]; omega
            case c5 => have := hO.bel.size; simp; omega
            intro v' w2 hown' hgrow _
            have hO' := hO.push hown' hgrow (by simp)
            clear hown' hgrow hO
            go_wp2_with fail
            go_roundw
            case rel => exact ⟨k + 1, hlt, by go_num, by rw [HT.out]; exact hO'⟩
            case measure => simp [intOf]; omega
          · obtain rfl : k = wl := by omega
            by_cases he : j0 + k < bs.length
            · have hcl := hR (j0 + k) he
              have hdg := HDs.out he
              unfold val at hcl
              clear hR
              generalize bs.getD (j0 + k) 0 = x at *
              go_wp2_with (go_at_call 13; refine (isDig13 x _).mono ?_; rintro e' w1 ⟨rfl, hw1⟩; rw [hw1, hdg])
              go_meet
              case rel => exact ⟨by go_num, hO⟩
            · clear hR
              go_wp2_with fail
              go_meet
              case rel => exact ⟨by go_num, hO⟩
    case rest =>
      obtain ⟨rfl, hO⟩ := hcut
      clear hO0
      have hR := HC.out.below hO.bel
      by_cases hw0 : wl = 0
      · have hok := ok_w0 bs (HWL.out.trans hw0)
        as_aux_lemma =>
          subst hw0
          clear hR
          go_wp2_with fail
          refine bodyPost_ret (results_tmp5 rfl _ _ _) rfl ?_
          exact said_no hok hO.bel
      · have hcj := hR j0 (by omega)
        unfold val at hcj
        have HLead : Hid (1 < wl → bs.getD j0 0 = 48 → okN bs = false) := fun a1 a2 => ok_lead bs (by rw [HWL.out]; exact a1) (by rw [← HJ0.out]; exact a2)
        by_cases hlead : 1 < wl ∧ bs.getD j0 0 = 48
        · have hok := HLead.out hlead.1 hlead.2
          as_aux_lemma =>
            have hw1 := hlead.1
            have t48 := tst_yes hlead.2 48 rfl
            clear hR HLead hlead
            generalize bs.getD j0 0 = x at *
            go_wp2_with fail
            refine bodyPost_ret (results_tmp5 rfl _ _ _) rfl ?_
            exact said_no hok hO.bel
        · have HNL : Hid (¬ (1 < wl ∧ bs.getD j0 0 = 48)) := hlead
          have hlead2 : 1 < wl → (((bs.getD j0 0).toNat : Int) == 48) = false := fun h => tst_no (fun e => hlead ⟨h, e⟩) 48 rfl
          have hw0' : 1 ≤ wl := by omega
          clear HLead hlead hR
          generalize bs.getD j0 0 = x0 at hcj hlead2
          go_upto_region 14 with fail
          go_cut [68] (fun cnd wx => cnd = .bool false ∧ wc = wx)
          case first =>
            as_aux_lemma =>
              by_cases hw1 : 1 < wl
              · have t48 := hlead2 hw1
                clear hlead2
                go_wp2_with fail
                go_meet
                case rel => exact ⟨rfl, rfl⟩
              · clear hlead2
                go_wp2_with fail
                go_meet
                case rel => exact ⟨rfl, rfl⟩
          case rest =>
            obtain ⟨rfl, rfl⟩ := hcut
            clear hlead2 hcj x0
            have hR := HC.out.below hO.bel
            have HDot : Hid (∀ h : j0 + wl < bs.length, Dot bs = (bs.getD (j0 + wl) 0 == 46)) := fun h => by
              unfold Dot J1
              rw [HWL.out, ← HJ0.out, get?_of bs (j0 + wl) h]
              rfl
            have HDot0 : Hid (¬ j0 + wl < bs.length → Dot bs = false) := fun h => by
              unfold Dot J1
              rw [HWL.out, ← HJ0.out, List.getElem?_eq_none (by omega)]
              rfl
            generalize hdd : Dot bs = dd at HDot HDot0
            have HDD : Hid (Dot bs = dd) := hdd
            clear hdd
            go_upto_region 16 with fail
            go_cut [82] (fun cnd wx => cnd = .bool dd ∧ wc = wx)
            case first =>
              as_aux_lemma =>
                by_cases hj : j0 + wl < bs.length
                · have hcl := hR (j0 + wl) hj
                  unfold val at hcl
                  have hd := HDot.out hj
                  have t : (((bs.getD (j0 + wl) 0).toNat : Int) == 46) = (bs.getD (j0 + wl) 0 == 46) := by rw [tst _ 46 46 rfl]; rfl
                  have HT : Hid (dd = (bs.getD (j0 + wl) 0 == 46)) := hd
                  clear hd hR
                  generalize bs.getD (j0 + wl) 0 = x at *
                  generalize hx : (x == 46) = y at *
                  clear hx
                  go_wp2_with fail
                  go_meet
                  case rel => exact ⟨by rw [HT.out], rfl⟩
                · have hd := HDot0.out hj
                  subst hd
                  clear hR
                  go_wp2_with fail
                  go_meet
                  case rel => exact ⟨rfl, rfl⟩
            case rest =>
              obtain ⟨rfl, rfl⟩ := hcut
              clear hR
              go_upto_if 82 with fail
              go_cut [8, 9] (fun j v wx => j = .int .i64 ((J2 bs : Nat) : Int) ∧ OwnB w wx v (Mm bs) ∧ Hid (Dot bs = true → FL bs ≠ 0))
              case first =>
                cases dd with
                | false =>
                  as_aux_lemma =>
                    have HJ : Hid (J2 bs = j0 + wl) := by
                      show _ = _
                      unfold J2 J2s FL J1; rw [HDD.out, HWL.out, ← HJ0.out]; rfl
                    have HM : Hid (Mm bs = (bs.drop j0).take wl) := by
                      show _ = _
                      unfold Mm FL; rw [HDD.out, HWL.out, ← HJ0.out]; simp
                    have HN : Hid (Dot bs = true → FL bs ≠ 0) := fun e => by rw [HDD.out] at e; cases e
                    clear HDot HDot0
                    go_wp2_with fail
                    go_meet
                    case rel => exact ⟨by rw [HJ.out], by rw [HM.out]; exact hO, HN⟩
                | true =>
                  as_aux_lemma =>
                    have hjl : j0 + wl < bs.length := by
                      by_cases h : j0 + wl < bs.length
                      · exact h
                      · have := HDot0.out h; cases this
                    have hJ2s : J2s bs = j0 + wl + 1 := by unfold J2s J1; rw [HDD.out, HWL.out, ← HJ0.out]; rfl
                    have hFL : FL bs = rl bs (j0 + wl + 1) := by unfold FL; rw [HDD.out, hJ2s]; rfl
                    have hfl : j0 + wl + 1 + FL bs ≤ bs.length := by rw [hFL]; have := rl_le bs (j0 + wl + 1); omega
                    have HFd : Hid (∀ k, k < FL bs → dig (bs.getD (j0 + wl + 1 + k) 0) = true) := fun k hk => rl_dig bs _ k (by rw [← hFL]; exact hk)
                    have HFs : Hid (j0 + wl + 1 + FL bs < bs.length → dig (bs.getD (j0 + wl + 1 + FL bs) 0) = false) := fun hk => by rw [hFL] at hk ⊢; exact rl_stop bs _ hk
                    have HJ : Hid (J2 bs = j0 + wl + 1 + FL bs) := by show _ = _; unfold J2; rw [hJ2s]
                    have HM : Hid (Mm bs = (bs.drop j0).take wl ++ (bs.drop (j0 + wl + 1)).take (FL bs)) := by
                      show _ = _
                      unfold Mm; rw [HWL.out, ← HJ0.out, hJ2s]
                    have HF0 : Hid (FL bs = 0 → okN bs = false) := fun e => ok_f0 bs HDD.out e
                    clear hFL hJ2s HDot HDot0
                    generalize FL bs = fl at *
                    have HLw : Hid (((bs.drop j0).take wl).length = wl) := by show _ = _; rw [List.length_take, List.length_drop]; omega
                    have hwj : wl ≤ j0 + wl := by omega
                    generalize hj1 : j0 + wl = j1 at *
                    clear hj1
                    go_wp2_with fail
                    go_loopw [8, 9] (fun j v wr => ∃ k : Nat, k ≤ fl ∧ j = .int .i64 ((j1 + 1 + k : Nat) : Int) ∧ OwnB w wr v ((bs.drop j0).take wl ++ (bs.drop (j1 + 1)).take k)) (fun j _ _ => bs.length - (intOf j).toNat)
                    case atStart => exact ⟨0, by omega, by simp, by simpa using hO⟩
                    case round =>
                      obtain ⟨k, hk, rfl, hO2⟩ := hrel
                      clear hO
                      have hR := HC.out.below hO2.bel
                      by_cases hlt : k < fl
                      · have hcl := hR (j1 + 1 + k) (by omega)
                        have hdg := HFd.out k hlt
                        have HT : Hid (_ = _) := take_more bs (j1 + 1) k (by omega)
                        have HL : Hid (((bs.drop j0).take wl ++ (bs.drop (j1 + 1)).take k).length = wl + k) := by show _ = _; rw [List.length_append, HLw.out, List.length_take, List.length_drop]; omega
                        unfold val at hcl
                        clear hR
                        generalize bs.getD (j1 + 1 + k) 0 = x at *
                        go_wp2_with (first
                          | (go_at_call 13; refine (isDig13 x _).mono ?_; rintro e' w1 ⟨rfl, hw1⟩; rw [hw1, hdg])
                          | (at_builtin; refine wpList_append_own _ rfl _ _ 22 rfl w.heap.size 5 Tryd.t5 (.int .u8 0) 1 1 Tryd.underlying22 info5' rfl rfl rfl rfl (by decide) _ _ _ rfl (hO2.own.alloc _) ⟨wr.heap.size, 0, none⟩ 1 1 [.int .u8 x.toNat] rfl rfl ?c1 ?c2 ?c3 ?c4 ?c5 ?_))
                        case c1 =>
                          intro j u hj
                          match j, hj with
                          | 0, hj => simp at hj; subst hj; simp [Addr.add]
                        case c2 => intro u hu; simp at hu; subst hu; rfl
                        case c3 => rw [HL.out]; unfold maxLen; omega
                        case c4 => rw [HL.out]; omega
                        case c5 => have := hO2.bel.size; simp; omega
                        intro v' w2 hown' hgrow _
                        have hO' := hO2.push hown' hgrow (by simp; try omega)
                        clear hown' hgrow hO2
                        go_wp2_with fail
                        go_roundw
                        case rel => exact ⟨k + 1, hlt, by go_num, by rw [HT.out, ← List.append_assoc]; exact hO'⟩
                        case measure => simp [intOf]; omega
                      · obtain rfl : k = fl := by omega
                        have hO3 := hO2
                        rw [← HM.out] at hO3
                        clear hO2
                        by_cases hf0 : k = 0
                        · have hok := HF0.out hf0
                          subst hf0
                          by_cases he : j1 + 1 + 0 < bs.length
                          · have hcl := hR (j1 + 1 + 0) he
                            have hdg := HFs.out he
                            unfold val at hcl
                            clear hR
                            generalize bs.getD (j1 + 1 + 0) 0 = x at *
                            go_wp2_with (go_at_call 13; refine (isDig13 x _).mono ?_; rintro e' w1 ⟨rfl, hw1⟩; rw [hw1, hdg])
                            refine bodyPost_ret (results_tmp5 rfl _ _ _) rfl ?_
                            exact said_no hok hO3.bel
                          · clear hR
                            go_wp2_with fail
                            refine bodyPost_ret (results_tmp5 rfl _ _ _) rfl ?_
                            exact said_no hok hO3.bel
                        · have HN : Hid (Dot bs = true → k ≠ 0) := fun _ => hf0
                          by_cases he : j1 + 1 + k < bs.length
                          · have hcl := hR (j1 + 1 + k) he
                            have hdg := HFs.out he
                            unfold val at hcl
                            clear hR
                            generalize bs.getD (j1 + 1 + k) 0 = x at *
                            go_wp2_with (go_at_call 13; refine (isDig13 x _).mono ?_; rintro e' w1 ⟨rfl, hw1⟩; rw [hw1, hdg])
                            go_meet
                            case rel => exact ⟨by rw [HJ.out]; go_num, hO3, HN⟩
                          · clear hR
                            go_wp2_with fail
                            go_meet
                            case rel => exact ⟨by rw [HJ.out]; go_num, hO3, HN⟩
              case rest =>
                obtain ⟨rfl, hO4, HFn⟩ := hcut
                clear hO HDot HDot0
                have hR := HC.out.below hO4.bel
                have hj2 := J2_le bs h1
                generalize hj2e : J2 bs = j2 at hj2 ⊢
                have HJ2 : Hid (j2 = J2 bs) := hj2e.symm
                clear hj2e
                have HEx : Hid (∀ h : j2 < bs.length, Ex bs = (bs.getD j2 0 == 101 || bs.getD j2 0 == 69)) := fun h => by
                  unfold Ex; rw [← HJ2.out, get?_of bs j2 h]; rfl
                have HEx0 : Hid (¬ j2 < bs.length → Ex bs = false) := fun h => by
                  unfold Ex; rw [← HJ2.out, List.getElem?_eq_none (by omega)]; rfl
                generalize hxx : Ex bs = xx at HEx HEx0
                have HXX : Hid (Ex bs = xx) := hxx
                clear hxx
                go_upto_region 25 with fail
                go_cut [129] (fun cnd wx => cnd = .bool xx ∧ wc = wx)
                case first =>
                  as_aux_lemma =>
                    by_cases hj : j2 < bs.length
                    · have hcl := hR j2 hj
                      unfold val at hcl
                      have hx := HEx.out hj
                      clear hR HEx HEx0
                      generalize bs.getD j2 0 = x at *
                      by_cases h101 : x = 101
                      · have t := tst_yes h101 101 rfl
                        have HT : Hid (xx = true) := by show _ = _; rw [hx, h101]; rfl
                        clear h101 hx
                        go_wp2_with fail
                        go_meet
                        case rel => exact ⟨by rw [HT.out], rfl⟩
                      · have t := tst_no h101 101 rfl
                        by_cases h69 : x = 69
                        · have t2 := tst_yes h69 69 rfl
                          have HT : Hid (xx = true) := by show _ = _; rw [hx, h69]; rfl
                          clear h101 h69 hx
                          go_wp2_with fail
                          go_meet
                          case rel => exact ⟨by rw [HT.out], rfl⟩
                        · have t2 := tst_no h69 69 rfl
                          have HT : Hid (xx = false) := by show _ = _; rw [hx, beq_eq_false_iff_ne.2 h101, beq_eq_false_iff_ne.2 h69]; rfl
                          clear h101 h69 hx
                          go_wp2_with fail
                          go_meet
                          case rel => exact ⟨by rw [HT.out], rfl⟩
                    · have hx := HEx0.out hj
                      have HT : Hid (xx = false) := hx
                      clear hR HEx HEx0 hx
                      go_wp2_with fail
                      go_meet
                      case rel => exact ⟨by rw [HT.out], rfl⟩
                case rest =>
                  obtain ⟨rfl, rfl⟩ := hcut
                  clear hR HEx
                  go_upto_if 129 with fail
                  go_cut [8, 13] (fun j e wx => ∃ je : Nat, j = .int .i64 je ∧ e = .int .i64 (expOf 1099511627776 bs) ∧ wc = wx ∧ je ≤ bs.length ∧ Hid ((Ex bs = true → XL bs ≠ 0 ∧ je = J4 bs + XL bs) ∧ (Ex bs = false → je = J2 bs)))
                  case first =>
                    cases xx with
                    | false =>
                      as_aux_lemma =>
                        have HE : Hid (expOf 1099511627776 bs = 0) := by show _ = _; unfold expOf; rw [HXX.out]; rfl
                        have HF : Hid ((Ex bs = true → XL bs ≠ 0 ∧ j2 = J4 bs + XL bs) ∧ (Ex bs = false → j2 = J2 bs)) := ⟨fun e => (by rw [HXX.out] at e; cases e), fun _ => HJ2.out⟩
                        clear HEx0
                        go_wp2_with fail
                        go_meet
                        case rel => exact ⟨j2, rfl, by rw [HE.out], rfl, hj2, HF⟩
                    | true =>
                      have hj2l : j2 < bs.length := by
                        by_cases h : j2 < bs.length
                        · exact h
                        · have := HEx0.out h; cases this
                      clear HEx0
                      have hR := HC.out.below hO4.bel
                      have HNg : Hid (∀ h : j2 + 1 < bs.length, Neg bs = (bs.getD (j2 + 1) 0 == 45) ∧ Sg bs = (bs.getD (j2 + 1) 0 == 43 || bs.getD (j2 + 1) 0 == 45)) := fun h => by
                        unfold Sg Neg; rw [← HJ2.out, get?_of bs (j2 + 1) h]; exact ⟨rfl, rfl⟩
                      have HNg0 : Hid (¬ j2 + 1 < bs.length → Neg bs = false ∧ Sg bs = false) := fun h => by
                        unfold Sg Neg; rw [← HJ2.out, List.getElem?_eq_none (by omega)]; exact ⟨rfl, rfl⟩
                      have HJ4 : Hid (J4 bs = if Sg bs then j2 + 2 else j2 + 1) := by show _ = _; unfold J4; rw [← HJ2.out]
                      generalize hss : Sg bs = ss at HNg HNg0 HJ4
                      have HSS : Hid (Sg bs = ss) := hss
                      clear hss
                      go_upto_region 28 with fail
                      go_cut [149] (fun cnd wx => cnd = .bool ss ∧ wc = wx)
                      case first =>
                        as_aux_lemma =>
                          by_cases hj : j2 + 1 < bs.length
                          · have hcl := hR (j2 + 1) hj
                            unfold val at hcl
                            have hx := (HNg.out hj).2
                            clear hR HNg HNg0 HJ4 HSS
                            generalize bs.getD (j2 + 1) 0 = x at *
                            by_cases h43 : x = 43
                            · have t := tst_yes h43 43 rfl
                              have HT : Hid (ss = true) := by show _ = _; rw [hx, h43]; rfl
                              clear h43 hx
                              go_wp2_with fail
                              go_meet
                              case rel => exact ⟨by rw [HT.out], rfl⟩
                            · have t := tst_no h43 43 rfl
                              by_cases h45 : x = 45
                              · have t2 := tst_yes h45 45 rfl
                                have HT : Hid (ss = true) := by show _ = _; rw [hx, h45]; rfl
                                clear h43 h45 hx
                                go_wp2_with fail
                                go_meet
                                case rel => exact ⟨by rw [HT.out], rfl⟩
                              · have t2 := tst_no h45 45 rfl
                                have HT : Hid (ss = false) := by show _ = _; rw [hx, beq_eq_false_iff_ne.2 h43, beq_eq_false_iff_ne.2 h45]; rfl
                                clear h43 h45 hx
                                go_wp2_with fail
                                go_meet
                                case rel => exact ⟨by rw [HT.out], rfl⟩
                          · have hx := (HNg0.out hj).2
                            have HT : Hid (ss = false) := hx
                            clear hR HNg HNg0 HJ4 HSS hx
                            go_wp2_with fail
                            go_meet
                            case rel => exact ⟨by rw [HT.out], rfl⟩
                      case rest =>
                        obtain ⟨rfl, rfl⟩ := hcut
                        go_upto_if 149 with fail
                        go_cut [8, 14] (fun j ng wx => j = .int .i64 ((J4 bs : Nat) : Int) ∧ ng = .bool (Neg bs) ∧ wc = wx)
                        case first =>
                          as_aux_lemma =>
                            cases ss with
                            | false =>
                              have HN : Hid (Neg bs = false) := by
                                show _ = _
                                have := HSS.out
                                unfold Sg at this
                                simp at this
                                exact this.2
                              have HJ : Hid (J4 bs = j2 + 1) := HJ4.out
                              clear hR HNg HNg0 HJ4
                              go_wp2_with fail
                              go_meet
                              case rel => exact ⟨by rw [HJ.out]; go_num, by rw [HN.out], rfl⟩
                            | true =>
                              have hj : j2 + 1 < bs.length := by
                                by_cases h : j2 + 1 < bs.length
                                · exact h
                                · have := (HNg0.out h).2; cases this
                              have hcl := hR (j2 + 1) hj
                              unfold val at hcl
                              have hx := (HNg.out hj).1
                              have t : (((bs.getD (j2 + 1) 0).toNat : Int) == 45) = (bs.getD (j2 + 1) 0 == 45) := by rw [tst _ 45 45 rfl]; rfl
                              have HT : Hid (Neg bs = (bs.getD (j2 + 1) 0 == 45)) := hx
                              have HJ : Hid (J4 bs = j2 + 2) := HJ4.out
                              clear hR HNg HNg0 HJ4 hx
                              generalize bs.getD (j2 + 1) 0 = x at *
                              generalize hy : (x == 45) = y at *
                              clear hy
                              go_wp2_with fail
                              go_meet
                              case rel => exact ⟨by rw [HJ.out]; go_num, by rw [HT.out], rfl⟩
                        case rest =>
                          obtain ⟨rfl, rfl, rfl⟩ := hcut
                          have hj4 : J4 bs ≤ bs.length := by
                            rw [HJ4.out]
                            cases ss with
                            | false => simp; omega
                            | true =>
                              by_cases h : j2 + 1 < bs.length
                              · simp; omega
                              · have := (HNg0.out h).2; cases this
                          have hxl : J4 bs + XL bs ≤ bs.length := by unfold XL; have := rl_le bs (J4 bs); omega
                          have HXd : Hid (∀ k, k < XL bs → dig (bs.getD (J4 bs + k) 0) = true) := fun k hk => rl_dig bs (J4 bs) k hk
                          have HXs : Hid (J4 bs + XL bs < bs.length → dig (bs.getD (J4 bs + XL bs) 0) = false) := fun hk => rl_stop bs (J4 bs) hk
                          have HX0 : Hid (XL bs = 0 → okN bs = false) := fun e => ok_x0 bs HXX.out e
                          have HEE : Hid (expOf 1099511627776 bs = if Neg bs then - capv 1099511627776 ((bs.drop (J4 bs)).take (XL bs)) 0 else capv 1099511627776 ((bs.drop (J4 bs)).take (XL bs)) 0) := by
                            show _ = _
                            unfold expOf Xs; rw [HXX.out]; rfl
                          have HCB : Hid (∀ k, k ≤ XL bs → 0 ≤ capv 1099511627776 ((bs.drop (J4 bs)).take k) 0 ∧ capv 1099511627776 ((bs.drop (J4 bs)).take k) 0 ≤ 10995116277769) := fun k hk => capv_bd 1099511627776 (by omega) _ 0 (fun c hc => Xs_dig bs c (by
                            unfold Xs
                            exact (List.take_subset_take_left _ hk) hc)) (by omega) (by omega)
                          have HFF : Hid (XL bs ≠ 0 → (Ex bs = true → XL bs ≠ 0 ∧ J4 bs + XL bs = J4 bs + XL bs) ∧ (Ex bs = false → J4 bs + XL bs = J2 bs)) := fun h => ⟨fun _ => ⟨h, rfl⟩, fun e => (by rw [HXX.out] at e; cases e)⟩
                          clear HNg HNg0 HJ4 hR
                          generalize J4 bs = j4 at *
                          generalize XL bs = xl at *
                          generalize Neg bs = ng at *
                          go_upto_block 4 with fail
                          go_cut [8, 13] (fun j e wx => j = .int .i64 ((j4 + xl : Nat) : Int) ∧ e = .int .i64 (capv 1099511627776 ((bs.drop j4).take xl) 0) ∧ wc = wx)
                          case first =>
                            as_aux_lemma =>
                              go_wp2_with fail
                              go_loopw [8, 13] (fun j e wr => ∃ k : Nat, k ≤ xl ∧ j = .int .i64 ((j4 + k : Nat) : Int) ∧ e = .int .i64 (capv 1099511627776 ((bs.drop j4).take k) 0) ∧ wr = wc) (fun j _ _ => bs.length - (intOf j).toNat)
                              case atStart => exact ⟨0, by omega, by simp, rfl, rfl⟩
                              case round =>
                                obtain ⟨k, hk, rfl, rfl, hwr⟩ := hrel
                                subst hwr
                                have hR := HC.out.below hO4.bel
                                by_cases hlt : k < xl
                                · have hcl := hR (j4 + k) (by omega)
                                  have hdg := HXd.out k hlt
                                  have hcb := HCB.out k hk
                                  have HT : Hid (capv 1099511627776 ((bs.drop j4).take (k + 1)) 0 = (if capv 1099511627776 ((bs.drop j4).take k) 0 < 1099511627776 then capv 1099511627776 ((bs.drop j4).take k) 0 * 10 + (((bs.getD (j4 + k) 0).toNat : Int) - 48) else capv 1099511627776 ((bs.drop j4).take k) 0)) := capv_more 1099511627776 bs j4 k (by omega)
                                  unfold val at hcl
                                  obtain ⟨hd48, hd57⟩ := dig_bd hdg
                                  obtain ⟨hc0, hc1⟩ := hcb
                                  clear hR HXd HXs HCB HEE HFF HX0
                                  generalize bs.getD (j4 + k) 0 = x at *
                                  generalize capv 1099511627776 ((bs.drop j4).take k) 0 = ev at *
                                  by_cases hcap : ev < 1099511627776
                                  · rw [if_pos hcap] at HT
                                    go_wp2_with (go_at_call 13; refine (isDig13 x _).mono ?_; rintro e' w1 ⟨rfl, hw1⟩; rw [hw1, hdg])
                                    go_roundw
                                    case rel => exact ⟨k + 1, hlt, by go_num, by rw [HT.out], by trivial⟩
                                    case measure => simp [intOf]; omega
                                  · rw [if_neg hcap] at HT
                                    go_wp2_with (go_at_call 13; refine (isDig13 x _).mono ?_; rintro e' w1 ⟨rfl, hw1⟩; rw [hw1, hdg])
                                    go_roundw
                                    case rel => exact ⟨k + 1, hlt, by go_num, by rw [HT.out], by trivial⟩
                                    case measure => simp [intOf]; omega
                                · obtain rfl : k = xl := by omega
                                  by_cases he : j4 + k < bs.length
                                  · have hcl := hR (j4 + k) he
                                    have hdg := HXs.out he
                                    unfold val at hcl
                                    clear hR HXd HXs HCB HEE HFF HX0
                                    generalize bs.getD (j4 + k) 0 = x at *
                                    generalize capv 1099511627776 ((bs.drop j4).take k) 0 = ev at *
                                    go_wp2_with (go_at_call 13; refine (isDig13 x _).mono ?_; rintro e' w1 ⟨rfl, hw1⟩; rw [hw1, hdg])
                                    go_meet
                                    case rel => exact ⟨by go_num, rfl, rfl⟩
                                  · clear hR HXd HXs HCB HEE HFF HX0
                                    generalize capv 1099511627776 ((bs.drop j4).take k) 0 = ev at *
                                    go_wp2_with fail
                                    go_meet
                                    case rel => exact ⟨by go_num, rfl, rfl⟩
                          case rest =>
                            obtain ⟨rfl, rfl, rfl⟩ := hcut
                            have hcb := HCB.out xl (Nat.le_refl _)
                            obtain ⟨hc0, hc1⟩ := hcb
                            clear HXd HXs HCB
                            generalize capv 1099511627776 ((bs.drop j4).take xl) 0 = ev at *
                            as_aux_lemma =>
                              by_cases hx0 : xl = 0
                              · have hok := HX0.out hx0
                                have HK : Hid (okN bs = false) := hok
                                subst hx0
                                clear hok HEE HFF HX0
                                go_wp2_with fail
                                refine bodyPost_ret (results_tmp5 rfl _ _ _) rfl ?_
                                exact said_no HK.out hO4.bel
                              · have hne : ((j4 : Int) + xl == j4) = false := beq_eq_false_iff_ne.2 (by omega)
                                have HF : Hid (_ ∧ _) := HFF.out hx0
                                clear HX0 HFF
                                cases ng with
                                | false =>
                                  have HE : Hid (expOf 1099511627776 bs = ev) := HEE.out
                                  clear HEE
                                  go_wp2_with fail
                                  go_meet
                                  case rel => exact ⟨j4 + xl, by go_num, by rw [HE.out], rfl, hxl, ⟨fun e => ⟨(HF.out.1 e).1, rfl⟩, HF.out.2⟩⟩
                                | true =>
                                  have HE : Hid (expOf 1099511627776 bs = - ev) := HEE.out
                                  clear HEE
                                  go_wp2_with fail
                                  go_meet
                                  case rel => exact ⟨j4 + xl, by go_num, by rw [HE.out], rfl, hxl, ⟨fun e => ⟨(HF.out.1 e).1, rfl⟩, HF.out.2⟩⟩
                  case rest =>
                    obtain ⟨je, rfl, rfl, rfl, hje, HF⟩ := hcut
                    clear HEx0
                    as_aux_lemma =>
                      by_cases he : je = bs.length
                      · have HY : Hid (okN bs = true) := ok_yes bs (by rw [HWL.out]; exact hw0) (by rw [HWL.out, ← HJ0.out]; exact HNL.out) HFn.out (fun e => ⟨(HF.out.1 e).1, by rw [← (HF.out.1 e).2]; exact he⟩) (fun e => by rw [← HF.out.2 e]; exact he)
                        have hE : (je : Int) = bs.length := by omega
                        clear he
                        go_wp2_with fail
                        refine bodyPost_ret (results_tmp5 rfl _ _ _) rfl ?_
                        exact ⟨_, _, _, _, by rw [HY.out]; rfl, hO4.bel, fun _ => ⟨HMN.out, by rw [HWL.out]; omega, rfl, hO4⟩⟩
                      · have hok : okN bs = false := by
                          cases hx : Ex bs with
                          | true => exact ok_xend bs hx (by rw [← (HF.out.1 hx).2]; exact he)
                          | false => exact ok_end bs hx (by rw [← HF.out.2 hx]; exact he)
                        have HK : Hid (okN bs = false) := hok
                        clear hok
                        have hE : ((je : Int) == bs.length) = false := beq_eq_false_iff_ne.2 (by omega)
                        go_wp2_with fail
                        refine bodyPost_ret (results_tmp5 rfl _ _ _) rfl ?_
                        exact said_no HK.out hO4.bel
end Go.Proofs.Qxb6602448aDoor

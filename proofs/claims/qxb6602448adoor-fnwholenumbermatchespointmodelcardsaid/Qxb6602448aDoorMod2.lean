/-
  Seat b6602448aD: the walk of zzb1ModelWhole (10).
-/
import Derived.Test.Qxb6602448aDoorMod
import Derived.OwnWalk
namespace Go.Proofs.Qxb6602448aDoor
open Go.RowKit

set_option maxHeartbeats 400000 in
theorem mod_empty (a : Option Addr) (c : Nat) (w : World) : Calls Tryd.prog 10 #[.slice a 0 c] w fun e w' => e = .returned (.tuple #[.slice none 0 0, .bool true, .bool false]) ∧ w' = w := by
  go_enter Tryd.func10, Tryd.ntmps10
  go_wp2
  go_ret3
  exact ⟨rfl, rfl⟩

set_option maxHeartbeats 1000000 in
theorem mod_no (b off c : Nat) (bs : List UInt8) (w : World) (h1 : 1 ≤ bs.length) (hn : bs.length ≤ 1048576) (hc : Row w b off bs) (hs : starts bs = false) :
    Calls Tryd.prog 10 #[.slice (some ⟨b, off, none⟩) bs.length c] w fun e w' => e = .returned (.tuple #[.slice none 0 0, .bool true, .bool false]) ∧ w' = w := by
  have hc0 := hc 0 (by omega)
  rw [Nat.add_zero] at hc0
  unfold val at hc0
  unfold starts at hs
  clear hc
  generalize bs.getD 0 0 = x at *
  have hz : ((bs.length : Int) == 0) = false := beq_eq_false_iff_ne.2 (by omega)
  rw [Bool.or_eq_false_iff] at hs
  obtain ⟨hs1, hd⟩ := hs
  have t := tst_no (beq_eq_false_iff_ne.1 hs1) 45 rfl
  have tb : ((x.toNat : Int) != 45) = true := by simp only [bne, t]; rfl
  clear hs1
  go_enter Tryd.func10, Tryd.ntmps10
  go_wp2_with (go_at_call 13; refine (isDig13 x _).mono ?_; rintro e' w1 ⟨rfl, hw1⟩; rw [hw1, hd])
  go_ret3
  exact ⟨rfl, rfl⟩

theorem litB (w : World) (x : UInt8) (g : Nat) (n : Int) (hx : (x.toNat : Int) = n) (fr : Nat × Nat) (hg : g = w.heap.size) : Piece (w.alloc (.cells #[.int .u8 n] 5 fr)) (.slice (some ⟨g, 0, none⟩) 1 1) [x] :=
  Piece.mk' (l := [x]) (c := 1) (fun k hk => by
    obtain rfl : k = 0 := by simp at hk; omega
    subst hg hx
    rw [World.cell?_alloc_mark]
    rfl) (by simp) (by omega)
theorem take_nxt (l : List UInt8) (k : Nat) (h : k < l.length) : l.take (k + 1) = l.take k ++ [l.getD k 0] := by
  rw [List.take_succ_eq_append_getElem h]
  simp [List.getD, h]

set_option maxHeartbeats 4000000 in
set_option maxRecDepth 100000 in
theorem mod (b off c : Nat) (bs : List UInt8) (w : World) (h1 : 1 ≤ bs.length) (hn : bs.length ≤ 1048576) (hc : Row w b off bs) (hs : starts bs = true) (hok : okN bs = true) :
    Calls Tryd.prog 10 #[.slice (some ⟨b, off, none⟩) bs.length c] w (ModOf bs w) := by
  have HP : Hid (Calls Tryd.prog 15 #[.slice (some ⟨b, off, none⟩) bs.length c] w (Said bs w)) := parse b off c bs w hn h1 hc
  have hc0 := hc 0 (by omega)
  rw [Nat.add_zero] at hc0
  unfold val at hc0
  unfold starts at hs
  clear hc
  generalize bs.getD 0 0 = x at *
  have hz : ((bs.length : Int) == 0) = false := beq_eq_false_iff_ne.2 (by omega)
  have hml : (Mm bs).length ≤ 1048576 := by
    have h2 := J2_le bs h1
    have := Mm_length bs h2
    have hj := J_le bs
    unfold J2 at h2 hj
    have : J2s bs ≤ J1 bs + 1 := by unfold J2s; split <;> omega
    have : J1 bs ≤ J2s bs := by unfold J2s; split <;> omega
    unfold J1 at *
    omega
  have hwl : WL bs ≤ 1048576 := by have := WL_le bs h1; omega
  have hex : -10995116277769 ≤ expOf 1099511627776 bs ∧ expOf 1099511627776 bs ≤ 10995116277769 := by
    have := capv_bd 1099511627776 (by omega) (Xs bs) 0 (Xs_dig bs) (by omega) (by omega)
    unfold expOf
    split
    · split <;> omega
    · omega
  obtain ⟨hex1, hex2⟩ := hex
  go_enter Tryd.func10, Tryd.ntmps10
  go_upto_region 1 with fail
  go_cut [31] (fun cnd wx => cnd = .bool false ∧ w = wx)
  case first =>
    by_cases h45 : x = 45
    · have t := tst_yes h45 45 rfl
      have tb : ((x.toNat : Int) != 45) = false := by simp only [bne, t]; rfl
      clear h45 hs
      go_wp2_with fail
      go_meet
      case rel => exact ⟨rfl, rfl⟩
    · have t := tst_no h45 45 rfl
      have tb : ((x.toNat : Int) != 45) = true := by simp only [bne, t]; rfl
      rw [beq_eq_false_iff_ne.2 h45, Bool.false_or] at hs
      clear h45
      go_wp2_with (go_at_call 13; refine (isDig13 x _).mono ?_; rintro e' w1 ⟨rfl, hw1⟩; rw [hw1, hs])
      go_meet
      case rel => exact ⟨rfl, rfl⟩
  case rest =>
    obtain ⟨rfl, rfl⟩ := hcut
    clear hs hc0 hz
    go_wp2_with fail
    refine HP.out.mono ?_
    rintro e w1 ⟨mn, v1, wl, ex, rfl, hb1, hall⟩
    rw [hok]
    obtain ⟨rfl, rfl, rfl, hO⟩ := hall hok
    obtain ⟨g, cap, rfl, hcap1, hcap2, hR⟩ := hO.row
    have HR : Hid (Row w1 g 0 (Mm bs)) := hR
    have HB1 : Hid (Below w.heap.size w w1) := hb1
    clear hall hO hR hb1 HP hok
    generalize hmm : Mm bs = m at *
    have HMM : Hid (Mm bs = m) := hmm
    clear hmm
    generalize hwle : WL bs = wl at *
    have HWL : Hid (WL bs = wl) := hwle
    clear hwle
    generalize hpe : expOf 1099511627776 bs = p at *
    have HPE : Hid (expOf 1099511627776 bs = p) := hpe
    clear hpe
    generalize hmne : decide (J0 bs = 1) = mn at *
    have HMN : Hid (decide (J0 bs = 1) = mn) := hmne
    clear hmne
    go_upto_block 0 with fail
    go_cut [10, 11] (fun f l wx => ∃ F L : Int, f = .int .i64 F ∧ l = .int .i64 L ∧ Hid (Scan m m.length F L) ∧ w1 = wx)
    case first =>
      go_wp2_with fail
      go_loopw [10, 11, 12] (fun f l i wr => wr = w1 ∧ ∃ (k : Nat) (F L : Int), k ≤ m.length ∧ i = .int .i64 k ∧ f = .int .i64 F ∧ l = .int .i64 L ∧ Hid (Scan m k F L)) (fun _ _ i _ => m.length - (intOf i).toNat)
      case atStart => exact ⟨rfl, 0, -1, -1, Nat.zero_le _, rfl, rfl, rfl, .inl ⟨rfl, rfl, fun j hj => by omega⟩⟩
      case round =>
        obtain ⟨hw, k, F, L, hk, rfl, rfl, rfl, hS⟩ := hrel
        subst hw
        obtain ⟨hb0, hb1, hb2, hb3⟩ := hS.out.bd
        by_cases hlt : k < m.length
        · have hcl := HR.out k hlt
          unfold val at hcl
          rw [Nat.zero_add] at hcl
          have HZ : Hid (m.getD k 0 = 48 → Scan m (k + 1) F L) := hS.out.zero
          have HF : Hid (F < 0 → m.getD k 0 ≠ 48 → Scan m (k + 1) k k) := hS.out.first
          have HN : Hid (¬ F < 0 → m.getD k 0 ≠ 48 → Scan m (k + 1) F k) := hS.out.next
          clear hS
          generalize m.getD k 0 = y at *
          by_cases hy : y = 48
          · have t := tst_yes hy 48 rfl
            have tb : ((y.toNat : Int) != 48) = false := by simp only [bne, t]; rfl
            have HS' : Hid (Scan m (k + 1) F L) := HZ.out hy
            clear hy HZ HF HN
            go_wp2_with fail
            go_roundw
            case rel => exact ⟨by trivial, k + 1, F, L, hlt, by go_num, rfl, rfl, HS'⟩
            case measure => simp [intOf]; omega
          · have t := tst_no hy 48 rfl
            have tb : ((y.toNat : Int) != 48) = true := by simp only [bne, t]; rfl
            by_cases hF : F < 0
            · have HS' : Hid (Scan m (k + 1) k k) := HF.out hF hy
              clear hy HZ HF HN
              go_wp2_with fail
              go_roundw
              case rel => exact ⟨by trivial, k + 1, k, k, hlt, by go_num, rfl, rfl, HS'⟩
              case measure => simp [intOf]; omega
            · have HS' : Hid (Scan m (k + 1) F k) := HN.out hF hy
              clear hy HZ HF HN
              go_wp2_with fail
              go_roundw
              case rel => exact ⟨by trivial, k + 1, F, k, hlt, by go_num, rfl, rfl, HS'⟩
              case measure => simp [intOf]; omega
        · obtain rfl : k = m.length := by omega
          go_wp2_with fail
          go_meet
          case rel => exact ⟨F, L, rfl, rfl, hS, rfl⟩
    case rest =>
      obtain ⟨F, L, rfl, rfl, hS, rfl⟩ := hcut
      rcases hS.out.done with ⟨rfl, hAZ⟩ | ⟨f, la, rfl, rfl, hNZ⟩
      · have HAZ : Hid (AllZ m) := hAZ
        clear hS hAZ
        go_wp2_with fail
        go_ret3
        refine ⟨_, true, some [48], rfl, ?_, ?_, ?_⟩
        · exact HB1.out.alloc HB1.out.size _
        · exact ⟨w1.heap.size, 0, 1, rfl, fun k hk => by
            obtain rfl : k = 0 := by simp at hk; omega
            rw [World.cell?_alloc_mark]; rfl⟩
        · rw [HMM.out]; exact res_zero HAZ.out
      · have HNZ : Hid (NZ m f la) := hNZ
        have hfl := hNZ.le
        have hlm := hNZ.lt
        clear hS hNZ
        by_cases hc1 : (wl : Int) + p ≤ la
        · go_wp2_with fail
          go_ret3
          exact ⟨_, false, none, rfl, HB1.out, rfl, by rw [HMM.out, HWL.out, HPE.out]; exact res_frac HNZ.out (by omega)⟩
        · by_cases hc2 : 20 < (wl : Int) + p - f
          · go_wp2_with fail
            go_ret3
            exact ⟨_, true, none, rfl, HB1.out, rfl, by rw [HMM.out, HWL.out, HPE.out]; exact res_great HNZ.out (by omega) (by omega)⟩
          · have HW : Hid (Res mn m wl p (some (sgn mn ++ digitsTo m f la (wl + p))) true) := res_whole HNZ.out hc1 hc2
            have mk : ∀ w, (Instr.makeSlice 22 (.int .i64 0) (.int .i64 21)).run Tryd.prog w = .ok (.slice (some ⟨w.heap.size, 0, none⟩) 0 21) (w.alloc (.cells (madeCells #[.int .u8 0] 21) 5)) := fun w => make_run 21 (by omega) w
            have HO0 : Hid (OwnB w1 (w1.alloc (.cells (madeCells #[.int .u8 0] 21) 5)) (.slice (some ⟨w1.heap.size, 0, none⟩) 0 21) []) := OwnB.made w1 21 (by omega)
            have HL : Hid (((digitsTo m f la (wl + p)).length : Int) = wl + p - f) := digitsTo_length m f la _ HNZ.out (by omega)
            have HD : Hid (∀ k : Nat, f ≤ k → (k : Int) < wl + p → (digitsTo m f la (wl + p)).getD (k - f) 0 = if k < m.length then m.getD k 0 else 48) := fun k hk1 hk2 => digitsTo_get m f la _ HNZ.out k hk1 hk2 (by omega)
            generalize digitsTo m f la (wl + p) = ds at *
            generalize hpt : (wl : Int) + p = pt at *
            obtain ⟨P, rfl⟩ : ∃ P : Nat, pt = P := ⟨pt.toNat, by omega⟩
            have HPT : Hid ((wl : Int) + p = P) := hpt
            have hdl : ds.length = P - f := by have := HL.out; omega
            have HDL : Hid (ds.length = P - f) := hdl
            clear hdl HL HNZ
            go_upto_if 69 with fail
            clear mk
            go_cut [14] (fun v wx => OwnB w1 wx v (sgn mn))
            case first =>
              cases mn with
              | false =>
                go_wp2_with fail
                go_meet
                case rel => exact HO0.out
              | true =>
                go_wp2_with (at_builtin; refine append_piece rfl _ _ rfl _ _ rfl (HO0.out.alloc _) _ [45] rfl (litB _ 45 _ _ rfl _ (by simp)) (by simp) ?_)
                intro v' w2 hO2
                go_wp2_with fail
                go_meet
                case rel => exact hO2
            case rest =>
              have HO1 : Hid (OwnB w1 wc _ (sgn mn)) := hcut
              have hsg : (sgn mn).length ≤ 1 := by unfold sgn; split <;> simp
              clear hcut HO0
              go_wp2_with fail
              go_loopw [14, 15] (fun v i wr => ∃ k : Nat, f ≤ k ∧ k ≤ P ∧ i = .int .i64 k ∧ OwnB w1 wr v (sgn mn ++ ds.take (k - f))) (fun _ i _ => P - (intOf i).toNat)
              case atStart => exact ⟨f, Nat.le_refl _, by omega, rfl, by rw [Nat.sub_self, List.take_zero, List.append_nil]; exact HO1.out⟩
              case round =>
                obtain ⟨k, hk1, hk2, rfl, hO⟩ := hrel
                clear HO1
                by_cases hlt : k < P
                · have HT : Hid (ds.take (k + 1 - f) = ds.take (k - f) ++ [ds.getD (k - f) 0]) := by
                    show _ = _
                    rw [show k + 1 - f = k - f + 1 by omega]
                    exact take_nxt ds (k - f) (by rw [HDL.out]; omega)
                  have HV : Hid (_ = _) := HD.out k hk1 (by omega)
                  have HLn : Hid ((sgn mn ++ ds.take (k - f)).length ≤ 30) := by
                    show _ ≤ _
                    rw [List.length_append, List.length_take, HDL.out]
                    omega
                  by_cases hm : k < m.length
                  · have HY : Hid (ds.getD (k - f) 0 = m.getD k 0) := by show _ = _; rw [HV.out, if_pos hm]
                    have hcl := HR.out.below hO.bel k hm
                    unfold val at hcl
                    rw [Nat.zero_add] at hcl
                    clear HV
                    generalize m.getD k 0 = y at *
                    go_wp2_with (at_builtin; refine append_piece rfl _ _ rfl _ _ rfl (hO.alloc _) _ [y] rfl (litB _ y _ _ rfl _ rfl) (Nat.le_trans (Nat.add_le_add_right HLn.out 1) (by omega)) ?_)
                    intro v' w2 hO2
                    clear hO hcl
                    go_wp2_with fail
                    go_roundw
                    case rel => exact ⟨k + 1, by omega, hlt, by go_num, by rw [HT.out, HY.out]; exact hO2⟩
                    case measure => simp [intOf]; omega
                  · have HY : Hid (ds.getD (k - f) 0 = 48) := by show _ = _; rw [HV.out, if_neg hm]
                    clear HV
                    go_wp2_with (at_builtin; refine append_piece rfl _ _ rfl _ _ rfl (hO.alloc _) _ [48] rfl (litB _ 48 _ _ rfl _ rfl) (Nat.le_trans (Nat.add_le_add_right HLn.out 1) (by omega)) ?_)
                    intro v' w2 hO2
                    clear hO
                    go_wp2_with fail
                    go_roundw
                    case rel => exact ⟨k + 1, by omega, hlt, by go_num, by rw [HT.out, HY.out]; exact hO2⟩
                    case measure => simp [intOf]; omega
                · obtain rfl : k = P := by omega
                  have hO3 := hO
                  rw [List.take_of_length_le (by rw [HDL.out]; exact Nat.le_refl _)] at hO3
                  have HO3 : Hid (OwnB w1 wr _ (sgn mn ++ ds)) := hO3
                  clear hO hO3
                  go_wp2_with fail
                  go_ret3
                  exact ⟨_, true, some (sgn mn ++ ds), rfl, HB1.out.trans (HO3.out.bel.mono HB1.out.size), HO3.out.outv, by rw [HMM.out, HWL.out, HPE.out, HMN.out]; exact HW.out⟩
end Go.Proofs.Qxb6602448aDoor

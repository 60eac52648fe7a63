/-
  Seat b6602448aD: WholeNumber (9).
-/
import Derived.Test.Qxb6602448aDoorDec
import Derived.Test.Qxb6602448aDoorPow
import Derived.Test.Qxb6602448aDoorRep
import Derived.Test.Qxb6602448aDoorMod
import Derived.OwnWalk
namespace Go.Proofs.Qxb6602448aDoor
open Go.RowKit

theorem drop_get {l : List UInt8} {i : Nat} {x : UInt8} (h : l[i]? = some x) : l.drop i = x :: l.drop (i + 1) := by
  obtain ⟨hl, e⟩ := List.getElem?_eq_some_iff.1 h
  rw [List.drop_eq_getElem_cons hl, e]

/-- The exponent's text: a sign or none, then digits. -/
theorem exp_split (bs : List UInt8) (h : Ok bs) : ∃ (s ds : List UInt8) (ng : Bool), (if Ex bs then bs.drop (J2 bs + 1) else []) = s ++ ds ∧ (s = [] ∨ s = [43] ∨ s = [45]) ∧ (∀ c ∈ ds, dig c = true) ∧ (ng = true ↔ s = [45]) ∧ ds.length ≤ bs.length ∧
    ∀ cap : Int, (if ng then - capv cap ds 0 else capv cap ds 0) = expOf cap bs := by
  cases hx : Ex bs with
  | false => exact ⟨[], [], false, rfl, .inl rfl, fun c hc => (by cases hc), ⟨fun e => (by cases e), fun e => (by cases e)⟩, Nat.zero_le _, fun cap => by unfold expOf; rw [hx]; rfl⟩
  | true =>
    obtain ⟨_, hx2⟩ := h.x1 hx
    have hXs : Xs bs = bs.drop (J4 bs) := by
      unfold Xs
      exact List.take_of_length_le (by rw [List.length_drop]; omega)
    have hdl : (bs.drop (J4 bs)).length ≤ bs.length := by rw [List.length_drop]; omega
    have hdg : ∀ c ∈ bs.drop (J4 bs), dig c = true := fun c hc => Xs_dig bs c (by rw [hXs]; exact hc)
    rw [if_pos rfl]
    cases hn : Neg bs with
    | true =>
      have e4 : J4 bs = J2 bs + 2 := by unfold J4 Sg; rw [hn, Bool.or_true]; rfl
      have eg : bs[J2 bs + 1]? = some 45 := by unfold Neg at hn; simpa using hn
      refine ⟨[45], bs.drop (J4 bs), true, by rw [drop_get eg, e4]; rfl, .inr (.inr rfl), hdg, ⟨fun _ => rfl, fun _ => rfl⟩, hdl, fun cap => ?_⟩
      unfold expOf; rw [hx, hn, hXs]; rfl
    | false =>
      have hE : ∀ cap : Int, capv cap (bs.drop (J4 bs)) 0 = expOf cap bs := fun cap => by unfold expOf; rw [hx, hn, hXs]; rfl
      cases hs : Sg bs with
      | true =>
        have e4 : J4 bs = J2 bs + 2 := by unfold J4; rw [hs]; rfl
        have eg : bs[J2 bs + 1]? = some 43 := by unfold Sg at hs; rw [hn, Bool.or_false] at hs; simpa using hs
        exact ⟨[43], bs.drop (J4 bs), false, by rw [drop_get eg, e4]; rfl, .inr (.inl rfl), hdg, ⟨fun e => (by cases e), fun e => (by cases e)⟩, hdl, hE⟩
      | false =>
        have e4 : J4 bs = J2 bs + 1 := by unfold J4; rw [hs]; rfl
        exact ⟨[], bs.drop (J4 bs), false, by rw [e4]; rfl, .inl rfl, hdg, ⟨fun e => (by cases e), fun e => (by cases e)⟩, hdl, hE⟩

/-- What WholeNumber hands back. -/
def WhOf (bs : List UInt8) (w : World) (e : Ending) (w' : World) : Prop :=
  ∃ v bl r, e = .returned (.tuple #[v, .bool bl]) ∧ Below w.heap.size w w' ∧ Out w' v r ∧ Res (decide (J0 bs = 1)) (Mm bs) (WL bs) (expOf ((bs.length : Int) + 20 + 1) bs) r bl

theorem repS (b off c n : Nat) (w : World) (hn : n ≤ 20) (hr : Row w b off [48]) : Calls Tryd.prog 19 #[.slice (some ⟨b, off, none⟩) 1 c, .int .i64 n] w fun e w' => ∃ v, e = .returned v ∧ Piece w' v (List.replicate n 48) ∧ Below w.heap.size w w' := by
  by_cases h0 : n = 0
  · subst h0; exact rep0 _ w
  · exact rep b off c n w (by omega) hn hr

set_option maxHeartbeats 400000 in
theorem wh_empty (a : Option Addr) (c : Nat) (w : World) : Calls Tryd.prog 9 #[.slice a 0 c] w fun e w' => e = .returned (.tuple #[.slice none 0 0, .bool false]) ∧ w' = w := by
  go_enter Tryd.func9, Tryd.ntmps9
  go_wp2
  go_ret2
  exact ⟨rfl, rfl⟩

set_option maxHeartbeats 1000000 in
theorem wh_no (b off c : Nat) (bs : List UInt8) (w : World) (h1 : 1 ≤ bs.length) (hn : bs.length ≤ 1048576) (hc : Row w b off bs) (hs : starts bs = false) :
    Calls Tryd.prog 9 #[.slice (some ⟨b, off, none⟩) bs.length c] w fun e w' => e = .returned (.tuple #[.slice none 0 0, .bool false]) ∧ w' = w := by
  have hc0 := hc 0 (by omega)
  rw [Nat.add_zero] at hc0
  unfold val at hc0
  unfold starts at hs
  clear hc
  generalize bs.getD 0 0 = x at *
  have hz : ((bs.length : Int) == 0) = false := beq_eq_false_iff_ne.2 (by omega)
  rw [Bool.or_eq_false_iff] at hs
  obtain ⟨hs1, hd⟩ := hs
  have t := tst_no (beq_eq_false_iff_ne.1 hs1) 45 rfl
  have tb : ((x.toNat : Int) != 45) = true := by simp only [bne, t]; rfl
  clear hs1
  go_enter Tryd.func9, Tryd.ntmps9
  go_wp2_with (go_at_call 16; refine (isDig16 x _).mono ?_; rintro e' w1 ⟨rfl, hw1⟩; rw [hw1, hd])
  go_ret2
  exact ⟨rfl, rfl⟩

set_option maxHeartbeats 4000000 in
set_option maxRecDepth 100000 in
theorem wh (b off c : Nat) (bs : List UInt8) (w : World) (h1 : 1 ≤ bs.length) (hn : bs.length ≤ 1048576) (hcb : bs.length ≤ c) (hcm : c ≤ 9223372036854775807) (hc : Row w b off bs) (hs : starts bs = true) (hok : okN bs = true) (hv : Vars w) :
    Calls Tryd.prog 9 #[.slice (some ⟨b, off, none⟩) bs.length c] w (WhOf bs w) := by
  have h2 := J2_le bs h1
  have hOk := ok_of hok
  have HP : Hid (Calls Tryd.prog 17 #[.slice (some ⟨b, off, none⟩) bs.length c] w (DecOf bs w)) := dec b off c bs w hn hcb hcm hc hOk h2 hv
  have hc0 := hc 0 (by omega)
  rw [Nat.add_zero] at hc0
  unfold val at hc0
  unfold starts at hs
  clear hc
  generalize bs.getD 0 0 = x at *
  have hz : ((bs.length : Int) == 0) = false := beq_eq_false_iff_ne.2 (by omega)
  go_enter Tryd.func9, Tryd.ntmps9
  go_upto_region 1 with fail
  go_cut [22] (fun cnd wx => cnd = .bool false ∧ w = wx)
  case first =>
    by_cases h45 : x = 45
    · have t := tst_yes h45 45 rfl
      have tb : ((x.toNat : Int) != 45) = false := by simp only [bne, t]; rfl
      clear h45 hs
      go_wp2_with fail
      go_meet
      case rel => exact ⟨rfl, rfl⟩
    · have t := tst_no h45 45 rfl
      have tb : ((x.toNat : Int) != 45) = true := by simp only [bne, t]; rfl
      rw [beq_eq_false_iff_ne.2 h45, Bool.false_or] at hs
      clear h45
      go_wp2_with (go_at_call 16; refine (isDig16 x _).mono ?_; rintro e' w1 ⟨rfl, hw1⟩; rw [hw1, hs])
      go_meet
      case rel => exact ⟨rfl, rfl⟩
  case rest =>
    obtain ⟨rfl, rfl⟩ := hcut
    clear hs hc0 hz x
    obtain ⟨s, ds, ng, eX, hs, hdg, hng, hdl, hE⟩ := exp_split bs hOk
    go_wp2_with fail
    refine HP.out.mono ?_
    rintro e w1 ⟨dv, xv, rfl, hb1, hPd, hPx⟩
    rw [eX] at hPx
    obtain ⟨pd, cd, rfl, hkd, hmd⟩ := hPd.form
    obtain ⟨px, cx, rfl, hkx, hmx⟩ := hPx.form
    have HPd : Hid (Piece w1 (.slice pd (Dg bs).length cd) (Dg bs)) := hPd
    have HPx : Hid (Piece w1 (.slice px (s ++ ds).length cx) (s ++ ds)) := hPx
    have HB1 : Hid (Below w.heap.size w w1) := hb1
    have HPow : Hid (∀ W, Piece W (.slice px (s ++ ds).length cx) (s ++ ds) → Calls Tryd.prog 18 #[.slice px (s ++ ds).length cx, .int .i64 ((bs.length + 20 : Nat) : Int)] W fun e w' => e = .returned (.int .i64 (expOf ((bs.length : Int) + 20 + 1) bs)) ∧ Below W.heap.size W w') := fun W hW => by
      have := power _ s ds (bs.length + 20) W hW hs hdg (by omega) (by omega) ng hng
      rw [hE, Int.natCast_add] at this
      exact this
    clear hPd hPx hb1 HP hs hdg hng hE eX
    generalize hxl : s ++ ds = xl at *
    clear hxl
    have hshb : -4194304 ≤ Sh bs ∧ Sh bs ≤ 4194304 := by
      have hml := Mm_length bs h2
      have hd1 : (Dg bs).length ≤ (Lib.trimLeftS (Mm bs) [48]).length := by
        unfold Dg Lib.trimRightS
        rw [List.length_reverse]
        have := (List.dropWhile_suffix (fun b => ([48] : List UInt8).contains b) (l := (Lib.trimLeftS (Mm bs) [48]).reverse)).length_le
        rwa [List.length_reverse] at this
      have hd2 : (Lib.trimLeftS (Mm bs) [48]).length ≤ (Mm bs).length := (List.dropWhile_suffix (fun b => ([48] : List UInt8).contains b) (l := Mm bs)).length_le
      have hj := J_le bs
      have hfl : FL bs ≤ bs.length := by unfold J2 at h2; omega
      unfold Sh
      omega
    have hpb : -20971520 ≤ expOf ((bs.length : Int) + 20 + 1) bs ∧ expOf ((bs.length : Int) + 20 + 1) bs ≤ 20971520 := by
      have := capv_bd ((bs.length : Int) + 20 + 1) (by omega) (Xs bs) 0 (Xs_dig bs) (by omega) (by omega)
      unfold expOf
      split
      · split <;> omega
      · omega
    obtain ⟨hsh1, hsh2⟩ := hshb
    obtain ⟨hpb1, hpb2⟩ := hpb
    have hdn : (Dg bs).length ≤ 1048576 * 2 := by
      have hml := Mm_length bs h2
      have hd1 : (Dg bs).length ≤ (Lib.trimLeftS (Mm bs) [48]).length := by
        unfold Dg Lib.trimRightS
        rw [List.length_reverse]
        have := (List.dropWhile_suffix (fun b => ([48] : List UInt8).contains b) (l := (Lib.trimLeftS (Mm bs) [48]).reverse)).length_le
        rwa [List.length_reverse] at this
      have hd2 : (Lib.trimLeftS (Mm bs) [48]).length ≤ (Mm bs).length := (List.dropWhile_suffix (fun b => ([48] : List UInt8).contains b) (l := Mm bs)).length_le
      have hj := J_le bs
      have hfl : FL bs ≤ bs.length := by unfold J2 at h2; omega
      omega
    generalize hmne : decide (J0 bs = 1) = mn at *
    have HMN : Hid (decide (J0 bs = 1) = mn) := hmne
    clear hmne
    generalize hshe : Sh bs = sh at *
    have HSH : Hid (Sh bs = sh) := hshe
    clear hshe
    generalize hpe : expOf ((bs.length : Int) + 20 + 1) bs = P at *
    have HPE : Hid (expOf ((bs.length : Int) + 20 + 1) bs = P) := hpe
    clear hpe
    generalize hdge : Dg bs = dg at *
    have HDG : Hid (Dg bs = dg) := hdge
    clear hdge
    have HOk : Hid (J2 bs ≤ bs.length) := h2
    clear h2 hOk hok
    go_upto_region 4 with fail
    have hSt : Str (w1.alloc (.cells #[.bool mn, .slice pd dg.length cd, .int .i64 sh, .slice px xl.length cx] 34)) w1.heap.size mn (.slice pd dg.length cd) sh (.slice px xl.length cx) := heap_alloc_new _ _
    have hBa : Below w1.heap.size w1 (w1.alloc (.cells #[.bool mn, .slice pd dg.length cd, .int .i64 sh, .slice px xl.length cx] 34)) := below_alloc _ _
    generalize hWA : w1.alloc (.cells #[.bool mn, .slice pd dg.length cd, .int .i64 sh, .slice px xl.length cx] 34) = wa at *
    have hza : w1.heap.size < wa.heap.size := by rw [← hWA]; simp
    clear hWA
    have HSt : Hid (Str wa w1.heap.size mn (.slice pd dg.length cd) sh (.slice px xl.length cx)) := hSt
    have HBa : Hid (Below w.heap.size w wa) := HB1.out.trans (hBa.mono HB1.out.size)
    have HPd' : Hid (Piece wa (.slice pd dg.length cd) dg) := HPd.out.below hBa
    have HPx' : Hid (Piece wa (.slice px xl.length cx) xl) := HPx.out.below hBa
    have k2 := hSt.cell 2 _ rfl
    have k3 := hSt.cell 3 _ rfl
    have HPW : Hid (Calls Tryd.prog 18 #[.slice px xl.length cx, .int .i64 ((bs.length : Int) + 20)] wa.drew fun e w' => e = .returned (.int .i64 P) ∧ Below wa.heap.size wa.drew w') := by
      have := HPow.out wa.drew HPx'.out.drew
      rw [Int.natCast_add] at this
      exact this
    clear HPd HPx HPow hSt hBa HB1 HPx'
    go_cut [5] (fun s wx => s = .int .i64 (sh + P) ∧ Below wa.heap.size wa wx)
    case first =>
      have hwr1 : IntKind.i64.wrap ((bs.length : Int) + 20) = (bs.length : Int) + 20 := by rw [IntKind.wrap_i64]; omega
      have hwr2 : IntKind.i64.wrap (sh + P) = sh + P := by rw [IntKind.wrap_i64]; omega
      go_region_with (go_at_call 18; refine HPW.out.mono ?_; rintro e w2 ⟨rfl, hb2⟩; have k2' : w2.cell? ⟨w1.heap.size, 2, none⟩ = some (.int .i64 sh) := (hb2.cell (p := ⟨w1.heap.size, 2, none⟩) hza).trans k2)
      all_goals (go_wp2_with fail)
      all_goals go_meet
      all_goals exact ⟨rfl, (show Below wa.heap.size wa wa.drew from ⟨rfl, rfl, rfl, Nat.le_refl _, fun _ _ => rfl⟩).trans hb2⟩
    case rest =>
      obtain ⟨rfl, hbx⟩ := hcut
      have hSc := HSt.out.below hbx hza
      have HSc : Hid (Str wc w1.heap.size mn (.slice pd dg.length cd) sh (.slice px xl.length cx)) := hSc
      have HBc : Hid (Below w.heap.size w wc) := HBa.out.trans (hbx.mono HBa.out.size)
      have HPc : Hid (Piece wc (.slice pd dg.length cd) dg) := HPd'.out.below hbx
      have k0 := hSc.cell 0 _ rfl
      have k1 := hSc.cell 1 _ rfl
      have hzc : w1.heap.size < wc.heap.size := Nat.lt_of_lt_of_le hza hbx.size
      clear hbx hSc k2 k3 HPW HPd' HSt HBa
      rcases nz_or (Mm bs) with hAZ | ⟨f, la, hNZ⟩
      · have HAZ : Hid (AllZ (Mm bs)) := hAZ
        have hdl : dg.length = 0 := by rw [← HDG.out, Dg_zero bs hAZ]; rfl
        clear hAZ
        have cv := Joins.run_convert_bytes_const_at (P := Tryd.prog) wc 22 5 #[.int .u8 48] 1 1 wc.heap.size rfl Tryd.underlying22 Tryd.underlying5
        go_wp2_with fail
        go_ret2
        refine ⟨_, true, some [48], rfl, HBc.out.alloc HBc.out.size _, ?_, res_zero HAZ.out⟩
        exact ⟨wc.heap.size, 0, 1, rfl, fun k hk => by
          obtain rfl : k = 0 := by simp at hk; omega
          rw [World.cell?_alloc_mark]; rfl⟩
      · have HNZ : Hid (NZ (Mm bs) f la) := hNZ
        have hfl := hNZ.le
        have hdl : dg.length = la + 1 - f := by rw [← HDG.out]; exact Dg_len hNZ
        have hsh : sh = (WL bs : Int) - 1 - la := by rw [← HSH.out]; exact Sh_nz hNZ HOk.out
        have HDe : Hid (dg = ((Mm bs).drop f).take (la + 1 - f)) := by show _ = _; rw [← HDG.out]; exact Dg_nz hNZ
        have HDL : Hid (dg.length = la + 1 - f) := hdl
        have hd1 : 1 ≤ dg.length := by omega
        have hzz : ((dg.length : Int) == 0) = false := beq_eq_false_iff_ne.2 (by omega)
        have HSHe : Hid (sh = (WL bs : Int) - 1 - la) := hsh
        clear hNZ hdl hsh
        by_cases hc1 : sh + P < 0
        · go_wp2_with fail
          go_ret2
          exact ⟨_, false, none, rfl, HBc.out, rfl, by rw [HPE.out]; exact res_frac HNZ.out (by have := HSHe.out; omega)⟩
        · by_cases hc2 : 20 < (dg.length : Int) + (sh + P)
          · go_wp2_with fail
            go_ret2
            exact ⟨_, true, none, rfl, HBc.out, rfl, by rw [HPE.out]; exact res_great HNZ.out (by have := HSHe.out; omega) (by have := HSHe.out; have := HDL.out; omega)⟩
          · have HW : Hid (Res mn (Mm bs) (WL bs) P (some (sgn mn ++ digitsTo (Mm bs) f la (WL bs + P))) true) := res_whole HNZ.out (by have := HSHe.out; omega) (by have := HSHe.out; have := HDL.out; omega)
            obtain ⟨S, hS⟩ : ∃ S : Nat, sh + P = S := ⟨(sh + P).toNat, by omega⟩
            have HDT : Hid (digitsTo (Mm bs) f la (WL bs + P) = dg ++ List.replicate S 48) := by
              show _ = _
              have hpt : ((WL bs : Int) + P).toNat - (la + 1) = S := by have := HSHe.out; omega
              unfold digitsTo
              rw [hpt, ← HDe.out]
            have hS20 : dg.length + S ≤ 20 := by omega
            have mk : ∀ w, (Instr.makeSlice 22 (.int .i64 0) (.int .i64 (1 + (dg.length : Int) + (S : Int)))).run Tryd.prog w = .ok (.slice (some ⟨w.heap.size, 0, none⟩) 0 (1 + dg.length + S)) (w.alloc (.cells (madeCells #[.int .u8 0] (1 + dg.length + S)) 5)) := fun w => by
              have := make_run (1 + dg.length + S) (by omega) w
              rw [Int.natCast_add, Int.natCast_add] at this
              exact this
            have HO0 : Hid (OwnB wc (wc.alloc (.cells (madeCells #[.int .u8 0] (1 + dg.length + S)) 5)) (.slice (some ⟨wc.heap.size, 0, none⟩) 0 (1 + dg.length + S)) []) := OwnB.made wc _ (by omega)
            have HK1 : Hid (wc.cell? ⟨w1.heap.size, 1, none⟩ = some (.slice pd dg.length cd)) := k1
            rw [hS] at hc1 hc2 ⊢
            clear hS
            go_upto_if 59 with fail
            clear mk
            go_cut [6] (fun v wx => OwnB wc wx v (sgn mn))
            case first =>
              cases mn with
              | false =>
                go_wp2_with fail
                go_meet
                case rel => exact HO0.out
              | true =>
                go_wp2_with (at_builtin; refine append_piece rfl _ _ rfl _ _ rfl (HO0.out.alloc _) _ [45] rfl (lit1 _ 45 _ _ rfl _ (by simp)) (by simp) ?_)
                intro v' w2 hO2
                go_wp2_with fail
                go_meet
                case rel => exact hO2
            case rest =>
              have hO1 := hcut
              have hsg : (sgn mn).length ≤ 1 := by unfold sgn; split <;> simp
              clear hcut HO0 k0 k1
              have k1 := (hO1.bel.cell (p := ⟨w1.heap.size, 1, none⟩) hzc).trans HK1.out
              go_wp2_with (at_builtin; refine append_piece rfl _ _ rfl _ _ rfl hO1 _ dg rfl (HPc.out.below hO1.bel) (by omega) ?_)
              intro v3 w3 hO3
              clear k1 hO1
              have HO3 : Hid (OwnB _ w3 v3 (sgn mn ++ dg)) := hO3
              have cv := Joins.run_convert_bytes_const_at (P := Tryd.prog) w3 22 5 #[.int .u8 48] 1 1 w3.heap.size rfl Tryd.underlying22 Tryd.underlying5
              clear hO3
              go_wp2_with fail
              refine (repS w3.heap.size 0 1 S _ (by omega) ?_).mono ?_
              · intro k hk
                obtain rfl : k = 0 := by simp at hk; omega
                rw [World.cell?_alloc_mark]; rfl
              rintro e w4 ⟨v4, rfl, hP4, hb4⟩
              have hb34 : Below w3.heap.size w3 w4 := (below_alloc _ _).trans (hb4.mono (by simp))
              have hO4 := HO3.out.below hb34
              clear cv hb4
              go_wp2_with (at_builtin; refine append_piece rfl _ _ rfl _ _ rfl hO4 _ (List.replicate S 48) rfl hP4 ?len ?_)
              case len => simp; omega
              intro v5 w5 hO5
              have HO5 : Hid (OwnB _ w5 v5 (sgn mn ++ (dg ++ List.replicate S 48))) := hO5
              clear hO4 hP4 hb34 hO5
              go_wp2_with fail
              go_ret2
              refine ⟨_, true, some (sgn mn ++ digitsTo (Mm bs) f la (WL bs + P)), rfl, HBc.out.trans (HO5.out.bel.mono HBc.out.size), ?_, by rw [HPE.out, HMN.out]; exact HW.out⟩
              rw [HDT.out]
              exact HO5.out.outv
end Go.Proofs.Qxb6602448aDoor

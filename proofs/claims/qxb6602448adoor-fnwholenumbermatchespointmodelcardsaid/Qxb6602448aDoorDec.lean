/-
  Seat b6602448aD: decimalOf (17).
-/
import Derived.Test.Qxb6602448aDoorCat
import Derived.Test.Qxb6602448aDoorDig
import Derived.Lib.SmallJoins
import Derived.Deep.RegionHeld
namespace Go.Proofs.Qxb6602448aDoor
open Go.RowKit

/-- What decimalOf hands back. -/
def DecOf (bs : List UInt8) (w : World) (e : Ending) (w' : World) : Prop :=
  ∃ dv xv, e = .returned (.agg #[.bool (decide (J0 bs = 1)), dv, .int .i64 (Sh bs), xv]) ∧ Below w.heap.size w w' ∧ Piece w' dv (Dg bs) ∧ Piece w' xv (if Ex bs then bs.drop (J2 bs + 1) else [])

theorem lit1 (w : World) (x : UInt8) (g : Nat) (n : Int) (hx : (x.toNat : Int) = n) (fr : Nat × Nat) (hg : g = w.heap.size) : Piece (w.alloc (.cells #[.int .u8 n] 5 fr)) (.slice (some ⟨g, 0, none⟩) 1 1) [x] :=
  Piece.mk' (l := [x]) (c := 1) (fun k hk => by
    obtain rfl : k = 0 := by simp at hk; omega
    subst hg hx
    rw [World.cell?_alloc_mark]
    rfl) (by simp) (by omega)
theorem below_alloc (w : World) (o : Obj) : Below w.heap.size w (w.alloc o) := (Below.refl _ _).alloc (Nat.le_refl _) o

theorem three (w : World) (A B C : Obj) : (((w.alloc A).alloc B).alloc C).heap[w.heap.size]? = some A ∧ (((w.alloc A).alloc B).alloc C).heap[w.heap.size + 1]? = some B ∧ (((w.alloc A).alloc B).alloc C).heap.size = w.heap.size + 3 := by
  refine ⟨?_, ?_, by simp⟩
  · rw [heap_alloc_old _ _ (by simp; omega), heap_alloc_old _ _ (by simp), heap_alloc_new]
  · rw [heap_alloc_old _ _ (by simp), show w.heap.size + 1 = (w.alloc A).heap.size by simp, heap_alloc_new]

/-- The struct lies at block g, its frozen range empty. -/
def Str (w : World) (g : Nat) (mn : Bool) (dv : Value) (sh : Int) (xv : Value) : Prop := w.heap[g]? = some (.cells #[.bool mn, dv, .int .i64 sh, xv] 34 (0, 0))
theorem Str.below {w w' : World} {B g : Nat} {mn : Bool} {dv xv : Value} {sh : Int} (h : Str w g mn dv sh xv) (hb : Below B w w') (hg : g < B) : Str w' g mn dv sh xv := (hb.block g hg).trans h

theorem Str.cell {w : World} {g : Nat} {mn : Bool} {dv xv : Value} {sh : Int} (h : Str w g mn dv sh xv) (k : Nat) (v : Value) (hv : (#[.bool mn, dv, .int .i64 sh, xv] : Array Value)[k]? = some v) : w.cell? ⟨g, k, none⟩ = some v := by
  unfold Str at h
  simp [World.cell?, h, hv]
theorem Str.free {w : World} {g : Nat} {mn : Bool} {dv xv : Value} {sh : Int} (h : Str w g mn dv sh xv) (k : Nat) : w.frozen? ⟨g, k, none⟩ = false := by
  unfold Str at h
  simp [World.frozen?, h]

theorem Piece.drew {w : World} {v : Value} {l : List UInt8} (h : Piece w v l) : Piece w.drew v l := h.below ⟨rfl, rfl, rfl, Nat.le_refl _, fun _ _ => rfl⟩
theorem Str.drew {w : World} {g : Nat} {mn : Bool} {dv xv : Value} {sh : Int} (h : Str w g mn dv sh xv) : Str w.drew g mn dv sh xv := h
/-- A store into the struct turns no byte. -/
theorem Piece.set {w : World} {v : Value} {l : List UInt8} {g : Nat} {mn : Bool} {dv xv : Value} {sh : Int} (h : Piece w v l) (hS : Str w g mn dv sh xv) (h1 : ∀ n, dv ≠ .int .u8 n) (h2 : ∀ n, xv ≠ .int .u8 n) (j : Nat) (x : Value) : Piece (w.setCell ⟨g, j, none⟩ x) v l :=
  ⟨h.form, fun hl => by
    obtain ⟨b, off, c, e, r⟩ := h.row hl
    refine ⟨b, off, c, e, fun k hk => ?_⟩
    have hc := r k hk
    by_cases hb : b = g
    · exfalso
      subst hb
      unfold Str at hS
      simp [World.cell?, hS] at hc
      rcases ho : off + k with _ | _ | _ | _ | n <;> simp [ho, val] at hc
      · exact h1 _ hc
      · exact h2 _ hc
    · rw [World.cell?_setCell_far _ _ _ _ (fun e => hb e.symm)]
      exact hc⟩

/-- Cells of the two structs alone have turned: no byte. -/
theorem Piece.sets {w W : World} {v : Value} {l : List UInt8} {g g' : Nat} {mn mn' : Bool} {dv xv dv' xv' : Value} {sh sh' : Int} (h : Piece w v l) (hS : Str w g mn dv sh xv) (hS' : Str w g' mn' dv' sh' xv') (h1 : ∀ n, dv ≠ .int .u8 n) (h2 : ∀ n, xv ≠ .int .u8 n) (h1' : ∀ n, dv' ≠ .int .u8 n) (h2' : ∀ n, xv' ≠ .int .u8 n)
    (hW : ∀ k, k ≠ g → k ≠ g' → W.heap[k]? = w.heap[k]?) : Piece W v l :=
  ⟨h.form, fun hl => by
    obtain ⟨b, off, c, e, r⟩ := h.row hl
    have apart : ∀ {g : Nat} {mn : Bool} {dv xv : Value} {sh : Int}, Str w g mn dv sh xv → (∀ n, dv ≠ .int .u8 n) → (∀ n, xv ≠ .int .u8 n) → b ≠ g := fun {g mn dv xv sh} hS h1 h2 hb => by
      have hc := r 0 (List.length_pos_iff.2 hl)
      subst hb
      unfold Str at hS
      simp [World.cell?, hS] at hc
      rcases ho : off with _ | _ | _ | _ | n <;> simp [ho, val] at hc
      · exact h1 _ hc
      · exact h2 _ hc
    refine ⟨b, off, c, e, fun k hk => ?_⟩
    rw [World.cell?_of_block (w := w) (a := ⟨b, off + k, none⟩) (hW b (apart hS h1 h2) (apart hS' h1' h2'))]
    exact r k hk⟩

theorem anyE (b off c : Nat) (l : List UInt8) (w : World) (hn1 : 1 ≤ l.length) (hn : l.length ≤ 1048576) (hcap : l.length ≤ c) (hcm : c ≤ 9223372036854775807) (hc : Row w b off l) (hv : Vars w) :
    Calls Tryd.prog 21 #[.slice (some ⟨b, off, none⟩) l.length c, .string ⟨#[101, 69]⟩] w fun e w' => e = .returned (.int .i64 (Lib.indexAny l [101, 69])) ∧ Below w.heap.size w w' :=
  any_all ⟨#[101, 69]⟩ b off c l w (Nat.le_refl 2) (show 2 ≤ 100 by omega) (fun j b hb => by
    match j, hb with
    | 0, hb => simp at hb; subst hb; decide
    | 1, hb => simp at hb; subst hb; decide) hn1 hn hcap hcm hc hv

set_option maxHeartbeats 1000000 in
set_option maxRecDepth 100000 in
theorem dec (b off c : Nat) (bs : List UInt8) (w : World) (hn : bs.length ≤ 1048576) (hc : bs.length ≤ c) (hm : c ≤ 9223372036854775807) (hr : Row w b off bs) (h : Ok bs) (h2 : J2 bs ≤ bs.length) (hv : Vars w) :
    Calls Tryd.prog 17 #[.slice (some ⟨b, off, none⟩) bs.length c] w (DecOf bs w) := by
  have hj := J_le bs
  have hw1 := h.w1
  have h1 : 1 ≤ bs.length := by omega
  have HR : Hid (Row w b off bs) := hr
  have hc0 := hr 0 (by omega)
  rw [Nat.add_zero] at hc0
  unfold val at hc0
  have hbl : b < w.heap.size := World.block_lt_of_cell? w ⟨b, off, none⟩ hc0
  have t45 : (((bs.getD 0 0).toNat : Int) == 45) = decide (J0 bs = 1) := by
    rw [tst _ 45 45 rfl]
    unfold J0
    rw [show bs[0]? = some (bs.getD 0 0) by simp [List.getD, show 0 < bs.length by omega]]
    by_cases e : bs.getD 0 0 = 45
    · rw [e]; rfl
    · rw [if_neg (by simpa using e)]; simpa using e
  clear hr
  generalize bs.getD 0 0 = x0 at *
  generalize hmn : decide (J0 bs = 1) = mn at *
  have HMN : Hid (decide (J0 bs = 1) = mn) := hmn
  clear hmn
  have cv := Joins.run_convert_bytes_const_at (P := Tryd.prog) ((w.alloc (.cells #[.bool false, .slice none 0 0, .int .i64 0, .slice none 0 0] 34)).alloc (.cells #[.bool mn, .slice none 0 0, .int .i64 0, .slice none 0 0] 34)) 22 5 #[.int .u8 45] 1 1 (w.heap.size + 1 + 1) (by simp) Tryd.underlying22 Tryd.underlying5
  go_enter Tryd.func17, Tryd.ntmps17
  go_wp2_with fail
  clear cv
  refine (trimMinus b off c bs _ _ h1 hc hm ?_ (lit1 _ 45 _ _ rfl _ (by simp))).mono ?_
  · exact ((HR.out.below (below_alloc _ _)).below (below_alloc _ _)).below (below_alloc _ _)
  rintro e w1 ⟨⟨v1, rfl, hp1⟩, hw1⟩
  have hb1 : Below w.heap.size w w1 := by
    rw [hw1]
    exact ((below_alloc _ _).trans ((below_alloc _ _).mono (by simp))).trans ((below_alloc _ _).mono (by simp; omega))
  have hS0 : Str w1 w.heap.size false (.slice none 0 0) 0 (.slice none 0 0) := by
    rw [hw1]; exact (three _ _ _ _).1
  have hS1 : Str w1 (w.heap.size + 1) mn (.slice none 0 0) 0 (.slice none 0 0) := by
    rw [hw1]; exact (three _ _ _ _).2.1
  have hz1 : w1.heap.size = w.heap.size + 3 := by rw [hw1]; exact (three _ _ _ _).2.2
  have HP1 : Hid (Piece w1 v1 (bs.drop (J0 bs))) := by rw [hw1]; exact hp1
  clear hw1 hp1
  have hll : (bs.drop (J0 bs)).length = bs.length - J0 bs := List.length_drop
  have HIX : Hid (Lib.indexAny (bs.drop (J0 bs)) [101, 69] = _) := index_e bs h
  generalize hl1 : bs.drop (J0 bs) = l1 at *
  have HL1 : Hid (bs.drop (J0 bs) = l1) := hl1
  clear hl1
  have hln1 : 1 ≤ l1.length := by omega
  have hln2 : l1.length ≤ 1048576 := by omega
  have HLL : Hid (l1.length = bs.length - J0 bs) := hll
  clear hll
  obtain ⟨b1, off1, c1, rfl, hR1⟩ := HP1.out.row (fun e => by rw [e] at hln1; simp at hln1)
  obtain ⟨_, _, e1, hk1, hm1⟩ := HP1.out.form
  simp only [Value.slice.injEq] at e1
  obtain ⟨rfl, _, rfl⟩ := e1
  have hv1 := hv.below hb1
  go_wp2_with fail
  refine (anyE b1 off1 c1 l1 w1 hln1 hln2 hk1 hm1 hR1 hv1).mono ?_
  rintro e w2 ⟨rfl, hb2⟩
  obtain ⟨ix, hix⟩ : ∃ ix, ix = (if Ex bs then ((J2 bs - J0 bs : Nat) : Int) else -1) := ⟨_, rfl⟩
  have HI : Hid (ix = (if Ex bs then ((J2 bs - J0 bs : Nat) : Int) else -1)) := hix
  rw [HIX.out, ← hix]
  clear hix
  have HB2 : Hid (Below w.heap.size w w2) := hb1.trans (hb2.mono (by omega))
  have HS0 : Hid (Str w2 w.heap.size false (.slice none 0 0) 0 (.slice none 0 0)) := hS0.below hb2 (by omega)
  have HS1 : Hid (Str w2 (w.heap.size + 1) mn (.slice none 0 0) 0 (.slice none 0 0)) := hS1.below hb2 (by omega)
  have HP2 : Hid (Piece w2 (.slice (some ⟨b1, off1, none⟩) l1.length c1) l1) := HP1.out.below hb2
  have HV2 : Hid (Vars w2) := hv1.below hb2
  clear hb1 hb2 hS0 hS1 HP1 hR1 hv1 HIX
  go_upto_if 22 with fail
  go_cut [4] (fun v wx => ∃ xv, Piece wx v (Mt bs) ∧ Str wx w.heap.size false (.slice none 0 0) 0 (.slice none 0 0) ∧ Str wx (w.heap.size + 1) mn (.slice none 0 0) 0 xv ∧ Piece wx xv (if Ex bs then bs.drop (J2 bs + 1) else []) ∧ Below w.heap.size w wx)
  case first =>
    cases hx : Ex bs with
    | false =>
      have hix : ix = -1 := by have := HI.out; rw [hx] at this; exact this
      have HM : Hid (Mt bs = l1) := by
        show _ = _
        unfold Mt
        rw [HL1.out, h.e0 hx]
        exact List.take_of_length_le (by rw [HLL.out]; exact Nat.le_refl _)
      subst hix
      go_wp2_with fail
      go_meet
      case rel => exact ⟨_, by rw [HM.out]; exact HP2.out, HS0.out, HS1.out, by rw [hx]; exact Piece.nil _ 0 (by omega) none, HB2.out⟩
    | true =>
      have hix : ix = ((J2 bs - J0 bs : Nat) : Int) := by have := HI.out; rw [hx] at this; exact this
      have hlt : J2 bs - J0 bs < l1.length := by
        have := (h.x1 hx).2
        have hx4 : J2 bs + 1 ≤ J4 bs := by unfold J4; split <;> omega
        have := (h.x1 hx).1
        rw [HLL.out]
        omega
      have HM : Hid (Mt bs = l1.take (J2 bs - J0 bs)) := by show _ = _; unfold Mt; rw [HL1.out]
      have HX : Hid (bs.drop (J2 bs + 1) = l1.drop (J2 bs - J0 bs + 1)) := by
        show _ = _
        rw [← HL1.out, List.drop_drop]
        congr 1
        omega
      subst hix
      clear HI
      generalize J2 bs - J0 bs = i at *
      have hcs : w2.cell? ⟨w.heap.size + 1, 3, none⟩ = some (.slice none 0 0) := HS1.out.cell 3 _ rfl
      have hfs : w2.frozen? ⟨w.heap.size + 1, 3, none⟩ = false := HS1.out.free 3
      go_wp2_with fail
      go_region
      generalize hxv : Value.slice (if c1 = i + 1 then some ⟨b1, off1, none⟩ else some ⟨b1, off1 + (i + 1), none⟩) (l1.length - (i + 1)) (c1 - (i + 1)) = xv
      have HXV : Hid (_ = xv) := hxv
      clear hxv
      go_wp2_with fail
      go_meet
      case rel =>
        have hset : Below (w.heap.size + 1) w2 (w2.setCell ⟨w.heap.size + 1, 3, none⟩ xv) := (Below.refl _ _).setCell (p := ⟨w.heap.size + 1, 3, none⟩) (Nat.le_refl _) _
        have hPs := (HP2.out.set HS1.out (fun _ e => by cases e) (fun _ e => by cases e) 3 xv).drew
        have hF := hPs.fromV hk1 hm1 (i + 1)
        unfold Lib.fromV at hF
        rw [Option.map_some, Addr.add_lit, HXV.out] at hF
        refine ⟨xv, ?_, (HS0.out.below hset (by omega)).drew, ?_, ?_, ?_⟩
        · rw [HM.out]; exact hPs.takeV hk1 hm1 i (by omega)
        · exact (Joins.block_setCell HS1.out _)
        · rw [hx, if_pos rfl, HX.out]; exact hF
        · exact (HB2.out.setCell (p := ⟨w.heap.size + 1, 3, none⟩) (Nat.le_succ _) _).trans ⟨rfl, rfl, rfl, Nat.le_refl _, fun _ _ => rfl⟩
  case rest =>
    obtain ⟨xv, hPm, hS0, hS1, hPx, hB⟩ := hcut
    clear HI HB2 HS0 HS1 HP2 HV2 HL1 HLL hk1 hm1 hln1 hln2
    have hml : (Mt bs).length = J2 bs - J0 bs := Mt_length bs h2
    have hZ : w.heap.size + 2 ≤ wc.heap.size := by
      have := (Array.getElem?_eq_some_iff.1 hS1).1
      omega
    have HBc : Hid (Below w.heap.size w wc) := hB
    have HSc0 : Hid (Str wc w.heap.size false (.slice none 0 0) 0 (.slice none 0 0)) := hS0
    have HSc1 : Hid (Str wc (w.heap.size + 1) mn (.slice none 0 0) 0 xv) := hS1
    have HPc : Hid (Piece wc xv (if Ex bs then bs.drop (J2 bs + 1) else [])) := hPx
    have HPm : Hid (Piece wc _ (Mt bs)) := hPm
    have HVc : Hid (Vars wc) := hv.below hB
    clear hS0 hS1 hPx hB
    obtain ⟨bm, om, cm, rfl, hRm⟩ := hPm.row (fun e => by rw [e] at hml; simp at hml; omega)
    clear hRm hPm
    have hmln : (Mt bs).length < 4294967281 := by omega
    generalize hmt : Mt bs = mt at *
    have HMT : Hid (Mt bs = mt) := hmt
    have HML : Hid (mt.length = J2 bs - J0 bs) := hml
    clear hmt hml
    have cv2 := Joins.run_convert_bytes_const_at (P := Tryd.prog) wc 22 5 #[.int .u8 46] 1 1 wc.heap.size rfl Tryd.underlying22 Tryd.underlying5
    go_wp2_with fail
    clear cv2
    refine (cut _ _ mt 46 _ (HPm.out.below (below_alloc _ _)) hmln (lit1 _ 46 _ _ rfl _ rfl) ⟨_, _, _, rfl⟩ (HVc.out.below (below_alloc _ _))).mono ?_
    rintro e w3 ⟨va, vb, fl, rfl, hb3, hyes, hno⟩
    rw [← HMT.out, index_dot bs h2] at hyes hno
    have hb3' : Below wc.heap.size wc w3 := (below_alloc _ _).trans (hb3.mono (by simp))
    have hab : Piece w3 va ((bs.drop (J0 bs)).take (WL bs)) ∧ Piece w3 vb ((bs.drop (J2s bs)).take (FL bs)) := by
      cases hd : Dot bs with
      | true =>
        rw [hd, if_pos rfl] at hyes
        obtain ⟨y1, y2⟩ := hyes (by omega)
        rw [Int.toNat_natCast] at y1 y2
        rw [whole_eq] at y1
        rw [frac_eq bs hd] at y2
        exact ⟨y1, y2⟩
      | false =>
        rw [hd, if_neg (by decide)] at hno
        obtain ⟨y1, y2⟩ := hno (by omega)
        rw [Mt_nodot bs hd] at y1
        have : FL bs = 0 := by unfold FL; rw [hd]; rfl
        rw [this, List.take_zero]
        exact ⟨y1, y2⟩
    clear hyes hno hb3
    have HA3 : Hid (Piece w3 va ((bs.drop (J0 bs)).take (WL bs))) := hab.1
    have HB3 : Hid (Piece w3 vb ((bs.drop (J2s bs)).take (FL bs))) := hab.2
    have HMm : Hid ((bs.drop (J0 bs)).take (WL bs) ++ (bs.drop (J2s bs)).take (FL bs) = Mm bs) := rfl
    have hla : ((bs.drop (J0 bs)).take (WL bs)).length = WL bs := by rw [List.length_take, List.length_drop]; omega
    have hlb : ((bs.drop (J2s bs)).take (FL bs)).length = FL bs := by
      rw [List.length_take, List.length_drop]
      unfold J2 at h2
      omega
    have hfl : FL bs ≤ bs.length := by unfold J2 at h2; omega
    generalize (bs.drop (J0 bs)).take (WL bs) = la at *
    generalize (bs.drop (J2s bs)).take (FL bs) = lb at *
    have HLb : Hid (lb.length = FL bs) := hlb
    have hla1 : 1 ≤ la.length := by omega
    have hla2 : la.length ≤ 1048576 := by omega
    have hlb2 : lb.length ≤ 1048576 := by omega
    clear hla hlb hfl
    obtain ⟨pa, ca, rfl, hka, hma⟩ := HA3.out.form
    obtain ⟨pb, cb, rfl, hkb, hmb⟩ := HB3.out.form
    have HS3 : Hid (Str w3 w.heap.size false (.slice none 0 0) 0 (.slice none 0 0)) := HSc0.out.below hb3' (by omega)
    have HS4 : Hid (Str w3 (w.heap.size + 1) mn (.slice none 0 0) 0 xv) := HSc1.out.below hb3' (by omega)
    have HX3 : Hid (Piece w3 xv (if Ex bs then bs.drop (J2 bs + 1) else [])) := HPc.out.below hb3'
    have HBw3 : Hid (Below w.heap.size w w3) := HBc.out.trans (hb3'.mono HBc.out.size)
    have hZ3 : w.heap.size + 2 ≤ w3.heap.size := Nat.le_trans hZ hb3'.size
    clear hb3' HSc0 HSc1 HPc HBc HPm HVc hab hZ
    go_wp2_with fail
    refine (concat w3.heap.size _ _ la lb _ (World.cell?_alloc_mark _ _ _ _ _) (World.cell?_alloc_mark _ _ _ _ _) (HA3.out.below (below_alloc _ _)) (HB3.out.below (below_alloc _ _)) (fun e => by rw [e] at hla1; simp at hla1) hla2 hlb2).mono ?_
    rintro e w4 ⟨v4, rfl, hO4⟩
    rw [HMm.out] at hO4
    have hb4 : Below w3.heap.size w3 w4 := (below_alloc _ _).trans (hO4.bel.mono (by simp))
    have hP4 := hO4.piece
    clear hO4
    go_wp2_with fail
    refine (trimLeft v4 (Mm bs) ⟨#[48]⟩ w4 hP4 (by decide) (fun j y hy => by
      match j, hy with
      | 0, hy => simp at hy; subst hy; decide)).mono ?_
    rintro e w5 ⟨⟨v5, rfl, hP5⟩, hb5⟩
    have hP5' : Piece w5 v5 (Lib.trimLeftS (Mm bs) [48]) := hP5
    clear hP5
    obtain ⟨p5, c5, rfl, hk5, hm5⟩ := hP5'.form
    go_wp2_with fail
    refine (trimRight _ (Lib.trimLeftS (Mm bs) [48]) ⟨#[48]⟩ w5 hP5' (by decide) (fun j y hy => by
      match j, hy with
      | 0, hy => simp at hy; subst hy; decide)).mono ?_
    rintro e w6 ⟨⟨v6, rfl, hP6⟩, hb6⟩
    have hP6' : Piece w6 v6 (Dg bs) := hP6
    clear hP6
    have hb36 : Below w3.heap.size w3 w6 := (hb4.trans (hb5.mono hb4.size)).trans (hb6.mono (Nat.le_trans hb4.size hb5.size))
    have hS60 := HS3.out.below hb36 (by omega)
    have hS61 := HS4.out.below hb36 (by omega)
    have HX6 : Hid (Piece w6 xv (if Ex bs then bs.drop (J2 bs + 1) else [])) := HX3.out.below hb36
    have HB6 : Hid (Below w.heap.size w w6) := HBw3.out.trans (hb36.mono HBw3.out.size)
    have HP6 : Hid (Piece w6 v6 (Dg bs)) := hP6'
    have HSA : Hid (Str w6 w.heap.size false (.slice none 0 0) 0 (.slice none 0 0)) := hS60
    have HSB : Hid (Str w6 (w.heap.size + 1) mn (.slice none 0 0) 0 xv) := hS61
    have a0 := hS60.cell 0 _ rfl
    have a1 := hS60.cell 1 _ rfl
    have a2 := hS60.cell 2 _ rfl
    have a3 := hS60.cell 3 _ rfl
    have b0 := hS61.cell 0 _ rfl
    have b1' := hS61.cell 1 _ rfl
    have b2 := hS61.cell 2 _ rfl
    have b3 := hS61.cell 3 _ rfl
    have fa0 := hS60.free 0
    have fa1 := hS60.free 1
    have fa2 := hS60.free 2
    have fa3 := hS60.free 3
    have fb1 := hS61.free 1
    have fb2 := hS61.free 2
    clear hS60 hS61 hb36 hb4 hb5 hb6 HS3 HS4 HX3 HBw3 hP4 hP5' HA3 HB3
    obtain ⟨p6, c6, rfl, hk6, hm6⟩ := hP6'.form
    clear hP6'
    have hdl : (Dg bs).length ≤ (Lib.trimLeftS (Mm bs) [48]).length := by
      unfold Dg Lib.trimRightS
      rw [List.length_reverse]
      have := (List.dropWhile_suffix (fun b => ([48] : List UInt8).contains b) (l := (Lib.trimLeftS (Mm bs) [48]).reverse)).length_le
      rwa [List.length_reverse] at this
    have hlm : (Lib.trimLeftS (Mm bs) [48]).length ≤ 2097152 := by
      have h5 := (List.dropWhile_suffix (fun b => ([48] : List UInt8).contains b) (l := Mm bs)).length_le
      have h6 := Mm_length bs h2
      rw [← HMm.out, List.length_append] at h6
      rw [← HMm.out, List.length_append] at h5
      unfold Lib.trimLeftS
      rw [← HMm.out]
      omega
    have HSh : Hid (Sh bs = ((Lib.trimLeftS (Mm bs) [48]).length : Int) - (Dg bs).length - lb.length) := by show _ = _; unfold Sh; rw [HLb.out]
    generalize hxl : (if Ex bs then bs.drop (J2 bs + 1) else []) = xl at *
    have HXL : Hid ((if Ex bs then bs.drop (J2 bs + 1) else []) = xl) := hxl
    clear hxl
    obtain ⟨px, cx, hxv, _, _⟩ := HX6.out.form
    subst hxv
    generalize (Lib.trimLeftS (Mm bs) [48]).length = n5 at *
    generalize hn6 : (Dg bs).length = n6 at *
    have HN6 : Hid ((Dg bs).length = n6) := hn6
    clear hn6
    go_wp2_with fail
    refine bodyPost_ret (v := .agg #[.bool mn, .slice p6 n6 c6, .int .i64 ((n5 : Int) - n6 - lb.length), .slice px xl.length cx]) (by simp [results, Tryd.results17, go_sem, a0, a1, a2, a3]) rfl ?_
    refine ⟨_, _, by rw [HMN.out, HSh.out], ?_, ?_, ?_⟩
    · exact (((((HB6.out.setCell (p := ⟨w.heap.size + 1, 1, none⟩) (Nat.le_succ _) _).setCell (p := ⟨w.heap.size + 1, 2, none⟩) (Nat.le_succ _) _).setCell (p := ⟨w.heap.size, 0, none⟩) (Nat.le_refl _) _).setCell (p := ⟨w.heap.size, 1, none⟩) (Nat.le_refl _) _).setCell (p := ⟨w.heap.size, 2, none⟩) (Nat.le_refl _) _).setCell (p := ⟨w.heap.size, 3, none⟩) (Nat.le_refl _) _
    · exact HP6.out.sets HSA.out HSB.out (fun _ e => by cases e) (fun _ e => by cases e) (fun _ e => by cases e) (fun _ e => by cases e) (fun k h1 h2 => by rw [Below.heap_setCell _ _ _ _ h1, Below.heap_setCell _ _ _ _ h1, Below.heap_setCell _ _ _ _ h1, Below.heap_setCell _ _ _ _ h1, Below.heap_setCell _ _ _ _ h2, Below.heap_setCell _ _ _ _ h2])
    · rw [HXL.out]
      exact HX6.out.sets HSA.out HSB.out (fun _ e => by cases e) (fun _ e => by cases e) (fun _ e => by cases e) (fun _ e => by cases e) (fun k h1 h2 => by rw [Below.heap_setCell _ _ _ _ h1, Below.heap_setCell _ _ _ _ h1, Below.heap_setCell _ _ _ _ h1, Below.heap_setCell _ _ _ _ h1, Below.heap_setCell _ _ _ _ h2, Below.heap_setCell _ _ _ _ h2])
end Go.Proofs.Qxb6602448aDoor

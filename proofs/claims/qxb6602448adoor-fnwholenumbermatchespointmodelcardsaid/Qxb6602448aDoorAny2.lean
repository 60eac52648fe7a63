/-
  Seat b6602448aD: bytes.IndexAny (15) at a slice of two to eight bytes, and at every slice that is not empty.
-/
import Derived.Test.Qxb6602448aDoorAny1
namespace Go.Proofs.Qxb6602448aDoor
open Go.RowKit

/-- What the package-level variables hold, as far as IndexAny asks. -/
structure Vars (w : World) : Prop where
  tabs : Lib.Utf8Tabs 1 2 w
  maxLen : ∃ m, w.cell? ⟨0, 0, none⟩ = some (.int .i64 m)
  room : 3 ≤ w.heap.size

theorem Vars.below {w w' : World} (h : Vars w) (hb : Below w.heap.size w w') : Vars w' where
  tabs := ⟨fun c hc => by rw [hb.cell (p := ⟨1, c, none⟩) (by have := h.room; show 1 < _; omega)]; exact h.tabs.1 c hc,
    fun i hi => ⟨by rw [hb.cell (p := ⟨2, 2 * i, none⟩) (by have := h.room; show 2 < _; omega)]; exact (h.tabs.2 i hi).1,
      by rw [hb.cell (p := ⟨2, 2 * i + 1, none⟩) (by have := h.room; show 2 < _; omega)]; exact (h.tabs.2 i hi).2⟩⟩
  maxLen := by
    obtain ⟨m, hm⟩ := h.maxLen
    exact ⟨m, by rw [hb.cell (p := ⟨0, 0, none⟩) (by have := h.room; show 0 < _; omega)]; exact hm⟩
  room := Nat.le_trans h.room hb.size

theorem num_add (k wd : Nat) : Value.int .i64 ((k : Int) + (wd : Int)) = .int .i64 ((k + wd : Nat) : Int) := by rw [Int.natCast_add]

/-- utf8.DecodeRune at what is left of the slice from k on, the byte there no ASCII. -/
theorem dec_call (b off k c : Nat) (bs : List UInt8) (w : World) (hk : k < bs.length) (hx : 128 ≤ (bs.getD k 0).toNat) (hr : Row w b off bs) (hv : Vars w) :
    Calls Tryd.prog 34 #[.slice (some ⟨b, off + k, none⟩) (bs.length - k) c] w fun e w' => ∃ r wd : Nat, e = .returned (.tuple #[.int .i32 r, .int .i64 wd]) ∧ 128 ≤ r ∧ 1 ≤ wd ∧ wd ≤ 4 ∧ k + wd ≤ bs.length ∧
      (∀ j, j < wd → 128 ≤ (bs.getD (k + j) 0).toNat) ∧ (r = 65533 ∨ (r ≠ 65533 ∧ 2 ≤ wd ∧ (Utf8.encode r).size = wd)) ∧ Below w.heap.size w w' := by
  have hsz : (ByteArray.mk (bs.drop k).toArray).size = bs.length - k := by simp [ByteArray.size]
  have hget : ∀ j, (ByteArray.mk (bs.drop k).toArray).get! j = bs.getD (k + j) 0 := fun j => by rw [get!_mk]; simp [List.getD]
  have c0 := Tryd.utf8_DecodeRune ⟨(bs.drop k).toArray⟩ b (off + k) c w hv.tabs (fun j hj => by
    rw [hget, Nat.add_assoc]
    exact hr (k + j) (by omega))
  rw [hsz] at c0
  have hd := dec_of ⟨(bs.drop k).toArray⟩ (by omega) (by rw [hget]; exact hx)
  refine c0.mono fun e w' ⟨he, hb⟩ => ⟨_, _, he, hd.r128, hd.w1, hd.w4, by have := hd.room; omega, fun j hj => by rw [← hget]; exact hd.high j hj, hd.enc, hb⟩

set_option maxHeartbeats 1000000 in
set_option maxRecDepth 1000000 in
theorem any_short (chars : ByteArray) (b off c : Nat) (bs : List UInt8) (w : World) (h2 : 2 ≤ chars.size) (h3 : chars.size ≤ 100) (ha : Ascii chars) (hn2 : 2 ≤ bs.length) (h8 : bs.length ≤ 8) (hcap : bs.length ≤ c) (_hcm : c ≤ 9223372036854775807) (hc : Row w b off bs) (hv : Vars w) :
    Calls Tryd.prog 21 #[.slice (some ⟨b, off, none⟩) bs.length c, .string chars] w fun e w' => e = .returned (.int .i64 (Lib.indexAny bs chars.data.toList)) ∧ Below w.heap.size w w' := by
  have HC : Hid (Row w b off bs) := hc
  have HA : Hid (Ascii chars) := ha
  have HV : Hid (Vars w) := hv
  have he := chars_nonempty chars h2
  have hn1 : ((chars.size : Int) == 1) = false := beq_eq_false_iff_ne.2 (by omega)
  have hl1 : ((bs.length : Int) == 1) = false := beq_eq_false_iff_ne.2 (by omega)
  have h8d : decide ((8 : Int) < (bs.length : Int)) = false := decide_eq_false (by omega)
  clear hc ha hv
  go_enter Tryd.func21, Tryd.ntmps21
  go_wp2_with fail
  refine (shouldSet _ _).mono ?_
  rintro e w1 ⟨rfl, hw1⟩
  subst hw1
  rw [h8d]
  go_wp2_with fail
  go_loopw [12] (fun i wr => ∃ k : Nat, k ≤ bs.length ∧ i = .int .i64 k ∧ Lib.NoAny bs chars.data.toList k ∧ Below w1.heap.size w1 wr) (fun i _ => bs.length - (intOf i).toNat)
  case atStart => exact ⟨0, by omega, rfl, Lib.NoAny.zero _ _, Below.refl _ _⟩
  case round =>
    obtain ⟨k, hk, rfl, hno, hbel⟩ := hrel
    by_cases hlt : k < bs.length
    · have hR := HC.out.below hbel
      have hV := HV.out.below hbel
      have hcell := hR k hlt
      unfold val at hcell
      have hg : Hid (bs[k]? = some (bs.getD k 0)) := by simp [List.getD, hlt, Hid]
      by_cases hx : (bs.getD k 0).toNat < 128
      · have hx' : (((bs.getD k 0).toNat : Nat) : Int) < 128 := by omega
        clear hR hV
        generalize bs.getD k 0 = x at *
        have q := ibs
        cases hin : chars.data.toList.contains x with
        | true =>
          have hix := contains_yes chars x hin
          have hr : Hid (_ = _) := Lib.indexAny_hit hno hg.out hin
          clear hin hno hg
          go_wp2
          go_ret
          exact ⟨ret_int (by rw [hr.out]), hbel⟩
        | false =>
          have hix := contains_no chars x hin
          have hno' := hno.succ hg.out hin
          clear hin hno hg
          go_wp2
          go_roundw
          case rel => exact ⟨k + 1, hlt, by go_num, hno', hbel⟩
          case measure => simp [intOf]; omega
      · have hx' : ¬ (((bs.getD k 0).toNat : Nat) : Int) < 128 := by omega
        have hx2 := c_lt (bs.getD k 0)
        have cD := fun cc => dec_call b off k cc bs wr hlt (by omega) hR hV
        have HD : Hid (_) := cD
        obtain ⟨m, hm⟩ := hV.maxLen
        clear hR hV cD hg
        generalize hgx : bs.getD k 0 = x at *
        clear hgx
        go_wp2_with fail
        refine (HD.out _).mono ?_
        rintro e w2 ⟨r, wd, rfl, hr, hw1, hw4, hroom, hhigh, henc, hb2⟩
        have hno' := noAny_skip hno HA.out hhigh
        have hbel' := hbel.trans (hb2.mono hbel.size)
        have hm2 : w2.cell? ⟨0, 0, none⟩ = some (.int .i64 m) := by
          rw [hb2.cell (p := ⟨0, 0, none⟩) (World.block_lt_of_cell? _ _ hm)]; exact hm
        clear hno hhigh hbel hb2 hm HD hcell
        rcases henc with h65 | ⟨h65, hw2, hsz⟩
        · have hne : ((r : Int) != 65533) = false := by rw [bne_eq_false_iff_eq, h65]; rfl
          clear h65
          go_wp2
          go_loopg [15] chars.size (fun g _ wx => ∃ i : Nat, i + g = chars.size ∧ wx = w2.iter chars i)
          case atStart => exact ⟨0, by omega, rfl⟩
          case round =>
            obtain ⟨i, hig, rfl⟩ := hrel
            cases gk with
            | zero =>
              obtain rfl : i = chars.size := by omega
              have hnx := fun ty => run_next_end (P := Tryd.prog) w2 chars chars.size ty (by omega)
              go_wp2
              go_roundw
              case rel => exact ⟨k + wd, hroom, num_add k wd, hno', hbel'.trans ((iter_below _ _ _).mono hbel'.size)⟩
              case measure => simp [intOf]; omega
            | succ g =>
              have hi : i < chars.size := by omega
              obtain ⟨y, hy⟩ : ∃ y : UInt8, chars[i]'hi = y := ⟨_, rfl⟩
              have hy128 : y.toNat < 128 := HA.out i y (by rw [← hy]; exact Lib.data_getElem? chars i hi)
              have hnx := fun ty => run_next_ascii (P := Tryd.prog) w2 chars i ty hi (by rw [hy]; exact hy128)
              rw [hy] at hnx
              clear hy
              have hny : ((r : Int) == (y.toNat : Int)) = false := beq_eq_false_iff_ne.2 (by omega)
              go_wp2
              go_roundg g
              case measure => omega
              case rel => exact ⟨i + 1, by omega, rfl⟩
        · have hne : ((r : Int) != 65533) = true := by rw [bne_iff_ne]; omega
          have HSZ : Hid ((Utf8.encode r).size = wd) := hsz
          clear hsz h65
          cases hcw : ((chars.size : Int) == (wd : Int)) with
          | true =>
            have hen := enc_ne chars HA.out r hr
            go_wp2
            go_roundw
            case rel => exact ⟨k + wd, hroom, num_add k wd, hno', hbel'⟩
            case measure => simp [intOf]; omega
          | false =>
            by_cases hml : (wd : Int) ≤ m
            · have q := ixs chars (Utf8.encode r) m w2 hm2 (by rw [HSZ.out]; exact hw2) (by rw [HSZ.out]; exact hml) (by omega)
              rw [index_enc chars HA.out r hr] at q
              go_wp2
              go_roundw
              case rel => exact ⟨k + wd, hroom, num_add k wd, hno', hbel'⟩
              case measure => simp [intOf]; omega
            · have hmd : decide ((wd : Int) ≤ m) = false := decide_eq_false hml
              clear HSZ
              go_wp2
              go_loopg [15] chars.size (fun g _ wx => ∃ i : Nat, i + g = chars.size ∧ wx = w2.iter chars i)
              case atStart => exact ⟨0, by omega, rfl⟩
              case round =>
                obtain ⟨i, hig, rfl⟩ := hrel
                cases gk with
                | zero =>
                  obtain rfl : i = chars.size := by omega
                  have hnx := fun ty => run_next_end (P := Tryd.prog) w2 chars chars.size ty (by omega)
                  go_wp2
                  go_roundw
                  case rel => exact ⟨k + wd, hroom, num_add k wd, hno', hbel'.trans ((iter_below _ _ _).mono hbel'.size)⟩
                  case measure => simp [intOf]; omega
                | succ g =>
                  have hi : i < chars.size := by omega
                  obtain ⟨y, hy⟩ : ∃ y : UInt8, chars[i]'hi = y := ⟨_, rfl⟩
                  have hy128 : y.toNat < 128 := HA.out i y (by rw [← hy]; exact Lib.data_getElem? chars i hi)
                  have hnx := fun ty => run_next_ascii (P := Tryd.prog) w2 chars i ty hi (by rw [hy]; exact hy128)
                  rw [hy] at hnx
                  clear hy
                  have hny : ((r : Int) == (y.toNat : Int)) = false := beq_eq_false_iff_ne.2 (by omega)
                  go_wp2
                  go_roundg g
                  case measure => omega
                  case rel => exact ⟨i + 1, by omega, rfl⟩
    · have e : k = bs.length := by omega
      have hr : Hid (Lib.indexAny bs chars.data.toList = -1) := Lib.indexAny_none (e ▸ hno)
      clear e hno
      go_wp2
      go_ret
      exact ⟨ret_int (by rw [hr.out]), hbel⟩

theorem indexAny_single (x : UInt8) (cs : List UInt8) : Lib.indexAny [x] cs = if cs.contains x then 0 else -1 := by
  cases h : cs.contains x with
  | true => rw [Lib.indexAny_hit (i := 0) (x := x) (Lib.NoAny.zero _ _) rfl h]; rfl
  | false => rw [Lib.indexAny_none (fun j b hj hb => by
      have e : j = 0 := by simp at hj; exact hj
      subst e
      simp at hb
      rw [← hb]; exact h)]; rfl

theorem ascii_not (chars : ByteArray) (ha : Ascii chars) (x : UInt8) (hx : 128 ≤ x.toNat) : chars.data.toList.contains x = false := by
  cases h : chars.data.toList.contains x with
  | false => rfl
  | true =>
    have hmem : x ∈ chars.data.toList := by simpa using h
    obtain ⟨i, hi, hget⟩ := List.getElem_of_mem hmem
    have := ha i x (by rw [List.getElem?_eq_getElem hi, hget])
    omega

/-- bytes.IndexAny AT EVERY SLICE OF BYTES THAT IS NOT EMPTY, the cutset ASCII, of two bytes or more. -/
theorem any_all (chars : ByteArray) (b off c : Nat) (bs : List UInt8) (w : World) (h2 : 2 ≤ chars.size) (h3 : chars.size ≤ 100) (ha : Ascii chars) (hn1 : 1 ≤ bs.length) (hn : bs.length ≤ 1048576) (hcap : bs.length ≤ c) (hcm : c ≤ 9223372036854775807) (hc : Row w b off bs) (hv : Vars w) :
    Calls Tryd.prog 21 #[.slice (some ⟨b, off, none⟩) bs.length c, .string chars] w fun e w' => e = .returned (.int .i64 (Lib.indexAny bs chars.data.toList)) ∧ Below w.heap.size w w' := by
  by_cases h1 : bs.length = 1
  · obtain ⟨x, rfl⟩ : ∃ x, bs = [x] := List.length_eq_one_iff.1 h1
    have hx : w.cell? ⟨b, off, none⟩ = some (.int .u8 x.toNat) := hc 0 (by simp)
    rw [indexAny_single]
    by_cases hh : x.toNat < 128
    · exact (any_one_low chars b off c x w h2 hh hx).mono fun e w' ⟨he, hw⟩ => ⟨he, hw ▸ Below.refl _ _⟩
    · rw [ascii_not chars ha x (by omega)]
      exact any_one_high chars b off c x w h2 ha (by omega) hx
  · by_cases h8 : bs.length ≤ 8
    · exact any_short chars b off c bs w h2 h3 ha (by omega) h8 hcap hcm hc hv
    · exact any_long chars b off c bs w h2 h3 ha hn (by omega) hc

end Go.Proofs.Qxb6602448aDoor

/-
  Seat b6602262aD: FnWalkValueMatchesModel (3): the law's walk, the row, the tied card.
-/
import Derived.Test.Qxb6602262aDoorZz
import Derived.Test.Qxb6602262aDoorFrame
namespace Go.Proofs.Qxb6602262aDoor
open Go.ChangeShapes Go.WideShapes Go.ChangeAt Go.RowKit

/-- The law lets the input by: the text is too long, or i is negative. -/
theorem law3_out (a : Option Addr) (n c : Nat) (i : Int) (w : World) (hn : n ≤ 9223372036854775807) (ho : 65536 < n ∨ i < 0) :
    Calls Tryd.prog 3 #[.slice a n c, .int .i64 i] w fun e w' => e = .returned (.bool true) ∧ w' = w := by
  by_cases h20 : n ≤ 1048576
  · have hd : decide (n ≤ 1048576) = true := decide_eq_true h20
    by_cases h16 : n ≤ 65536
    · have hi : i < 0 := by omega
      clear ho
      go_enter Tryd.func3, Tryd.ntmps3
      go_wp2_with fail
      refine (bytes5 a n c i w hn).mono ?_
      rintro e w1 ⟨rfl, hw1⟩
      rw [hw1, hd]
      go_wp2_with fail
      go_ret
      exact ⟨rfl, rfl⟩
    · clear ho
      go_enter Tryd.func3, Tryd.ntmps3
      go_wp2_with fail
      refine (bytes5 a n c i w hn).mono ?_
      rintro e w1 ⟨rfl, hw1⟩
      rw [hw1, hd]
      go_wp2_with fail
      go_ret
      exact ⟨rfl, rfl⟩
  · have hd : decide (n ≤ 1048576) = false := decide_eq_false h20
    clear ho
    go_enter Tryd.func3, Tryd.ntmps3
    go_wp2_with fail
    refine (bytes5 a n c i w hn).mono ?_
    rintro e w1 ⟨rfl, hw1⟩
    rw [hw1, hd]
    go_wp2_with fail
    go_ret
    exact ⟨rfl, rfl⟩

set_option maxHeartbeats 400000 in
/-- i at or past the end. -/
theorem law3_past (a a' : Option Addr) (n c c' : Nat) (i : Int) (w W : World) (hn : n ≤ 65536) (hi : (n : Int) ≤ i) (hb : Below w.heap.size w W)
    (cl : Calls Tryd.prog 6 #[.slice a n c] w fun e w' => e = .returned (.slice a' n c') ∧ w' = W) :
    Calls Tryd.prog 3 #[.slice a n c, .int .i64 i] w fun e w' => e = .returned (.bool true) ∧ Below w.heap.size w w' := by
  have CL : Hid (Calls Tryd.prog 6 #[.slice a n c] w fun e w' => e = .returned (.slice a' n c') ∧ w' = W) := cl
  have hd : decide (n ≤ 1048576) = true := decide_eq_true (by omega)
  clear cl
  go_enter Tryd.func3, Tryd.ntmps3
  go_wp2_with fail
  refine (bytes5 a n c i w (by omega)).mono ?_
  rintro e w1 ⟨rfl, hw1⟩
  rw [hw1, hd]
  go_wp2_with fail
  refine CL.out.mono ?_
  rintro e w2 ⟨rfl, hw2⟩
  rw [hw2]
  go_wp2_with fail
  refine (zz_of _ _ _ _ W (fun w' => w' = W) (walkV_past c' n i W hi a')).mono ?_
  rintro e w3 ⟨rfl, hw3⟩
  rw [hw3]
  go_wp2_with fail
  refine (zzWalk_past a' n c' i W hi).mono ?_
  rintro e w4 ⟨rfl, hw4⟩
  rw [hw4]
  go_wp2_with fail
  go_ret
  exact ⟨rfl, hb⟩

set_option maxHeartbeats 1000000 in
/-- i within the text. -/
theorem law3_in (a : Option Addr) (c c' g i : Nat) (bs : List UInt8) (w W : World) (hn : bs.length ≤ 65536) (hi : i < bs.length) (hb : Below w.heap.size w W) (hcap : bs.length ≤ c') (hcm : c' ≤ 65536) (hH : Holds W g bs) (hV : Vars W)
    (cl : Calls Tryd.prog 6 #[.slice a bs.length c] w fun e w' => e = .returned (.slice (some ⟨g, 0, none⟩) bs.length c') ∧ w' = W) :
    Calls Tryd.prog 3 #[.slice a bs.length c, .int .i64 i] w fun e w' => e = .returned (.bool true) ∧ Below w.heap.size w w' := by
  have CL : Hid (Calls Tryd.prog 6 #[.slice a bs.length c] w fun e w' => e = .returned (.slice (some ⟨g, 0, none⟩) bs.length c') ∧ w' = W) := cl
  have hd : decide (bs.length ≤ 1048576) = true := decide_eq_true (by omega)
  have C1 : Hid (Calls Tryd.prog 7 #[.slice (some ⟨g, 0, none⟩) bs.length c', .int .i64 i] W fun e w' => e = .returned (.tuple #[.int .i64 (walk bs i).1, .int .i64 (walk bs i).2]) ∧ Below W.heap.size W w') :=
    zz_of _ _ _ _ W _ (walkV g c' i bs W hn hcap (by omega) hH hV)
  have C2 : Hid (∀ W1, Below W.heap.size W W1 → Calls Tryd.prog 8 #[.slice (some ⟨g, 0, none⟩) bs.length c', .int .i64 i] W1 fun e w' => e = .returned (.tuple #[.int .i64 (walk bs i).1, .int .i64 (walk bs i).2]) ∧ w' = W1) :=
    fun W1 h1 => zzWalk_in g c' i bs W1 hn hi (hH.below h1)
  clear cl hV hH
  generalize (walk bs i).1 = E at *
  generalize (walk bs i).2 = D at *
  go_enter Tryd.func3, Tryd.ntmps3
  go_wp2_with fail
  refine (bytes5 a _ c i w (by omega)).mono ?_
  rintro e w1 ⟨rfl, hw1⟩
  rw [hw1, hd]
  go_wp2_with fail
  refine CL.out.mono ?_
  rintro e w2 ⟨rfl, hw2⟩
  rw [hw2]
  go_wp2_with fail
  refine C1.out.mono ?_
  rintro e w3 ⟨rfl, hb3⟩
  go_wp2_with fail
  refine (C2.out w3 hb3).mono ?_
  rintro e w4 ⟨rfl, hw4⟩
  rw [hw4]
  go_wp2_with fail
  go_ret
  exact ⟨rfl, hb.trans (hb3.mono hb.size)⟩

theorem law3 (a : Option Addr) (len cap : Nat) (zs : List Int) (i : Int) (w : World) (h : IsRow w a len cap zs) (hv : Vars w) :
    Calls Tryd.prog 3 #[.slice a len cap, .int .i64 i] w fun e w' => e = .returned (.bool true) ∧ Below w.heap.size w w' := by
  have hlen := row_len h
  by_cases ho : 65536 < len ∨ i < 0
  · exact (law3_out a len cap i w hlen ho).mono fun e w' ⟨he, hw⟩ => ⟨he, hw ▸ Below.refl _ _⟩
  · obtain ⟨bs, a', W, hbl, hb, hin, cl⟩ := clone_row a len cap zs w h (by omega)
    by_cases hp : (len : Int) ≤ i
    · exact law3_past a a' len cap len i w W (by omega) hp hb cl
    · obtain ⟨k, rfl⟩ : ∃ k : Nat, i = k := ⟨i.toNat, by omega⟩
      obtain ⟨g, rfl, hH⟩ := hin (by omega)
      subst hbl
      exact law3_in a cap bs.length g k bs w W (by omega) (by omega) hb (Nat.le_refl _) (by omega) hH (hv.below hb) cl

set_option maxRecDepth 100000 in
theorem lifted3 (os : Os) (started : os.Started) (H : Type) (enc : TypeId × Value → H) :
    ReturnsInHanded {} Tryd.checked os 3 .any (fun w args => (Rows.fnWalkValueMatchesModelSpec.pre enc Tryd.prog Tryd.f3 [] false w args ∧ laidMetH Tryd.prog laidL w) ∧ sizedMet enc Tryd.prog Tryd.f3 (OpenSpec.ofChange Rows.fnWalkValueMatchesModelSpec) false w args)
      (Rows.fnWalkValueMatchesModelSpec.post enc Tryd.prog Tryd.f3 false true false false) := by
  refine returns_shaped (C := Tryd.checked) (X := fun w _ => laidMetH Tryd.prog laidL w) (fun _ _ _ hh h => h.of_heap hh) own started (by kernel_rfl) Tryd.func3
    (ChangeSpec.witness_shaped (enc := enc) (C := Tryd.checked) (os := os) (X := fun w _ => laidMetH Tryd.prog laidL w) false (World.laidAll Tryd.prog os laidL) #[.slice none 0 0, .int .i64 0] 8 (World.laidAll_os _ _ _)
      (World.shaped_of_ZipB (by kernel_rfl) (by kernel_rfl)) (by kernel_rfl) (by kernel_rfl) (by kernel_rfl)
      (by rw [MakeChecks.laidMetH_plain _ _ _ (by kernel_rfl)]; exact laidMet_laidAll _ (by kernel_rfl) (by kernel_rfl))) ?_
  intro W base args ds gs before hval0 hW hL hsh
  have hval : ∀ (j : Nat) t v, Tryd.f3.params[j]? = some t → args[j]? = some v → Value.okWide Tryd.prog W .any base t v := hval0
  have hW' := hW
  obtain ⟨p, q, hA0, hV, rfl, _, _⟩ := hW
  have hA : DataW.TrodAll enc Tryd.prog W 0 (fun _ => true) true Tryd.f3.params.toList args.toList ds p := hA0
  rw [Tryd.params3] at hA hval
  obtain ⟨v0, v1, d0, d1, p0, p1, rfl, rfl, rfl, h0, h1⟩ := trodAll_two hA
  obtain ⟨rfl, rfl⟩ := trodVars_none hV
  obtain ⟨a0, len0, cap0, rfl⟩ := okWide_slice Tryd.underlying22 (hval 0 22 v0 rfl rfl)
  have k0 := h0
  have lt0 : ∀ x ∈ p0, x.block < W.heap.size := by obtain ⟨m, hm⟩ := k0; exact DataW.trod_lt m _ _ _ hm
  obtain ⟨z0, w0⟩ : ∃ zs, IsRow W a0 len0 cap0 zs := by
    obtain ⟨fuel, hf⟩ := h0
    rcases open_ints Tryd.underlying22 Tryd.underlying5 (by kernel_rfl) hf with ⟨hcs, _⟩ | ⟨x, l, c, zs, hcs, _, hl, hm, hz, _, hcell, hwz⟩
    · simp [Value.cells] at hcs
      obtain ⟨rfl, rfl, rfl⟩ := hcs
      exact ⟨[], .inl ⟨rfl, rfl, rfl, rfl⟩⟩
    · simp [Value.cells] at hcs
      obtain ⟨rfl, rfl, rfl⟩ := hcs
      exact ⟨zs, .inr ⟨_, rfl, hl, hm, by simpa using hz, hcell, hwz⟩⟩
  obtain ⟨i, rfl, rfl, rfl, wi⟩ := open_int Tryd.underlying3 (hval 1 3 v1 rfl rfl) h1
  clear hA0 hval0
  refine (law3 a0 len0 cap0 z0 i W w0 (vars_of hL hsh)).mono fun e W' ⟨he, bel⟩ => ?_
  subst he
  exact ⟨_, rfl, _, _, _, [], _, [], hW', trodAll_mk1 (shut_bool Tryd.underlying4 _), trodAll_mk2 (Below.trod laidOut (by kernel_rfl) (of_decide_eq_true (by kernel_rfl)) k0 bel lt0) (shut_int Tryd.underlying3 wi), rfl, bel.frame _, fun h => by cases h⟩

theorem holds3 : Rows.FnWalkValueMatchesModelSaid :=
  OpenClaim.holds_of_wide 3 Tryd.f3 rfl rfl rfl rfl rfl rfl rfl ⟨rfl, rfl, rfl, rfl, rfl⟩ rfl rfl rfl rfl rfl (by kernel_rfl) Tryd.func3 (by kernel_rfl)
    (of_decide_eq_true (by kernel_rfl)) (by unfold Func.isWrapper; first | (rw [if_pos (by decide +kernel)]; kernel_rfl) | (rw [if_neg (by decide +kernel)]; exact ⟨rfl, rfl⟩))
    (fun os started H enc _ => lifted3 os started H enc)

theorem matches_card : Rows.FnWalkValueMatchesModelCardSaid :=
  Claim7.holds_tied_plain_at .later [] [.data, .pinned] true (true, "4f1efe9bdc93d3dad57086f8f554fa7595f0fb6f2eb0413567f3b7a2266ebf64") false holds3 (fun _ h => by cases h) (by kernel_rfl) (fun _ h => by cases h) fnWalkValueMatchesModel_row_tie rfl ⟨rfl, rfl⟩ (by kernel_rfl) rfl
    (fun f fn hf hfn => by
      obtain rfl : f = 3 := Option.some.inj ((show Tryd.prog.funcNamed Rows.fnWalkValueMatchesModelRow.func = some 3 by kernel_rfl).symm.trans hf) |>.symm
      obtain rfl : fn = Tryd.f3 := (Option.some.inj (Tryd.func3.symm.trans hfn)).symm
      exact ⟨by kernel_rfl, fun j t ht => by
        rw [Tryd.params3] at ht
        have hm : t ∈ [22, 3] := by simpa using Array.mem_of_getElem? ht
        have hall : ([22, 3].all fun u => !Tryd.prog.wantsStandIn u) = true := by kernel_rfl
        exact (show Tryd.prog.wantsStandIn t = false by simpa using List.all_eq_true.1 hall t hm)⟩)
    (by kernel_rfl)
end Go.Proofs.Qxb6602262aDoor

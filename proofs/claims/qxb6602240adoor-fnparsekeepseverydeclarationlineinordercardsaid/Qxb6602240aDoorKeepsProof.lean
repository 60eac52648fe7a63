/-
  Seat b6602240aD: FnParseKeepsEveryDeclarationLineInOrder: the law's walk, the row, the tied card.
-/
import Derived.Test.Qxb6602240aDoorParse
import Derived.Test.Qxb6602240aDoorShelf
import Derived.Test.Qxb6602240aDoorTie
import Derived.Test.Qxb6602240aDoorCards
import Derived.ProofKit
import Derived.OpenShut
import Derived.ShutString
import Derived.LaidMore
import Derived.Lay
import Derived.SevenTiedAt
import Derived.Stop.Joined
namespace Go.Proofs.Qxb6602240aDoor
open Go.ChangeShapes Go.WideShapes Go.ChangeAt Go.RowKit
open Go.ChangeMaps (open_string shut_string)

theorem ownsRow_below {w w' : World} {base e size n : Nat} {v : Value} {xs : List Value} (h : w.ownsRow base e size v n xs) (hb : Below w.heap.size w w') : w'.ownsRow base e size v n xs := by
  obtain ⟨h1, h2⟩ := h
  refine ⟨h1, ?_⟩
  rcases h2 with h2 | ⟨g, cap, cur, hv, hg, hh, r⟩
  · exact .inl h2
  · have hlt : g < w.heap.size := by
      by_cases hl : g < w.heap.size
      · exact hl
      · rw [Array.getElem?_eq_none (by omega)] at hh; cases hh
    exact .inr ⟨g, cap, cur, hv, hg, (hb.block g hlt).trans hh, r⟩

theorem kept_le (s : ByteArray) : (kept s.data.toList).length ≤ s.size + 1 := by
  have h1 := keptTo_le s (pieces s).length
  have h2 := Lib.countB_le nl (by decide) s.size s (Nat.le_refl _)
  have h3 := pieces_length s
  rw [keptTo_all] at h1
  omega

set_option maxHeartbeats 400000 in
theorem law_short (s : ByteArray) (w : World) (hs : s.size ≤ 1048576) (hsh : w.ShapedOpen Tryd.prog) :
    Calls Tryd.prog 3 #[.string s] w fun e w' => e = .returned (.bool true) ∧ Below w.heap.size w w' := by
  have c8 := Hid.out (zzparse_of s w (parse_of s w hs (Tryd.strings_Split_shaped s nl w hsh (by omega) (by decide)) (fun x W => Tryd.strings_HasPrefix x ⟨#[35]⟩ W)))
  have H8 : Hid (Calls Tryd.prog 8 #[.string s] w fun e w' => ∃ v, e = .returned v ∧ Own w w' v (kept s.data.toList)) := c8
  clear c8 hsh
  have hkl := kept_le s
  go_enter Tryd.func3, Tryd.ntmps3
  go_wp2_with fail
  refine (bytes_yes s _ hs).mono ?_
  rintro e w1 ⟨rfl, hw1⟩
  subst hw1
  go_wp2_with fail
  refine H8.out.mono ?_
  rintro e w2 ⟨va, rfl, hA⟩
  go_wp2_with fail
  refine (model_any s w2 hs).mono ?_
  rintro e w3 ⟨vb, rfl, hB⟩
  go_wp2_with fail
  refine (same_any w1.heap.size (kept s.data.toList) va vb w3 (by unfold maxLen; omega) (ownsRow_below hA.own hB.bel) (ownsRow_lower hB.own hA.bel.size) hA.nil hB.nil).mono ?_
  rintro e w4 ⟨rfl, q, rfl⟩
  go_wp2
  go_ret
  refine ⟨rfl, ?_⟩
  exact (hA.bel.trans (hB.bel.mono hA.bel.size)).trans ⟨rfl, rfl, rfl, Nat.le_refl _, fun _ _ => rfl⟩

set_option maxHeartbeats 400000 in
theorem law_long (s : ByteArray) (w : World) (hs : ¬ s.size ≤ 1048576) :
    Calls Tryd.prog 3 #[.string s] w fun e w' => e = .returned (.bool true) ∧ Below w.heap.size w w' := by
  go_enter Tryd.func3, Tryd.ntmps3
  go_wp2_with fail
  refine (bytes_no s _ hs).mono ?_
  rintro e w1 ⟨rfl, hw1⟩
  subst hw1
  go_wp2
  go_ret
  exact ⟨rfl, Below.refl _ _⟩

theorem law (s : ByteArray) (w : World) (hsh : w.ShapedOpen Tryd.prog) :
    Calls Tryd.prog 3 #[.string s] w fun e w' => e = .returned (.bool true) ∧ Below w.heap.size w w' := by
  by_cases hs : s.size ≤ 1048576
  · exact law_short s w hs hsh
  · exact law_long s w hs

theorem own : ownKnob Tryd.prog.godebug = none := by kernel_rfl
def laidL : List (String × DataW Unit) := Rows.fnParseKeepsEveryDeclarationLineInOrderRow.laid

/-- The wrap that keeps both the condition X and the world's shape. -/
theorem returns_shaped {H : Type} {enc : TypeId × Value → H} {a : Assume} {C : Checked} {os : Os} {f : FuncId} {fn : Func} {s : ChangeSpec} {conds : List PathCond} {apart fresh handsOn again : Bool} {X : World → Array Value → Prop}
    (hX : ∀ (w w' : World) (args : Array Value), w.heap = w'.heap → X w args → X w' args)
    (own : ownKnob C.prog.godebug = none) (started : os.Started) (noInit : C.prog.inits.idxOf? f = none) (hfn : C.prog.funcs[f]? = some fn)
    (witness : ∃ (w : World) (tape : Tape) (i : Input), w.os = os ∧ (w.forCall tape i).Shaped C.prog ∧ i.vars = [] ∧ Input.okWide C.prog (w.forCall tape i) .any w.heap.size f i ∧
      ((s.pre enc C.prog fn conds apart (w.forCall tape i).memory i.args ∧ X (w.forCall tape i).memory i.args) ∧ sizedMet enc C.prog fn (OpenSpec.ofChange s) apart (w.forCall tape i).memory i.args) ∧ a.holds C.prog (lone (Frame.enter C.prog f i.args .normal) [] (w.forCall tape i)))
    (contract : ∀ (W : World) (base : Nat) (args : Array Value) (ds gs : List (DataW H)) (before : List MemPlace),
      (∀ (j : Nat) t v, fn.params[j]? = some t → args[j]? = some v → Value.okWide C.prog W .any base t v) →
      DataW.Whole enc C.prog fn.params.toList s.vars apart W args.toList ds gs before →
      X W args → W.ShapedOpen C.prog →
      Calls C.prog f args W fun e W' => ∃ v, e = .returned v ∧ s.post enc C.prog fn apart fresh handsOn again W args v W') :
    ReturnsInHanded a C os f .any (fun w args => (s.pre enc C.prog fn conds apart w args ∧ X w args) ∧ sizedMet enc C.prog fn (OpenSpec.ofChange s) apart w args) (s.post enc C.prog fn apart fresh handsOn again) := by
  refine returnsInHanded_of_calls own started noInit witness ?_
  intro w tape i _ hsh _ hok hpre hholds
  obtain ⟨_, _, _, fn', hfn', _, _, _, _, hval⟩ := hok
  have e : fn' = fn := Option.some.inj (hfn'.symm.trans hfn)
  subst e
  obtain ⟨⟨⟨ds, gs, before, hw, hc⟩, hx⟩, hz⟩ := hpre
  have hw' := DataW.Whole.of_heap (w' := w.forCall tape i) (by rfl) hw
  refine (contract (w.forCall tape i) w.heap.size i.args ds gs before hval hw' (hX _ _ _ (by rfl) hx) hsh).mono fun e W' ⟨v, he, hp⟩ => ?_
  subst he
  exact ChangeSpec.post_blind hp

set_option maxRecDepth 100000 in
theorem lifted (os : Os) (started : os.Started) (H : Type) (enc : TypeId × Value → H) :
    ReturnsInHanded {} Tryd.checked os 3 .any (fun w args => (Rows.fnParseKeepsEveryDeclarationLineInOrderSpec.pre enc Tryd.prog Tryd.f3 [] false w args ∧ laidMetH Tryd.prog laidL w) ∧ sizedMet enc Tryd.prog Tryd.f3 (OpenSpec.ofChange Rows.fnParseKeepsEveryDeclarationLineInOrderSpec) false w args)
      (Rows.fnParseKeepsEveryDeclarationLineInOrderSpec.post enc Tryd.prog Tryd.f3 false true false false) := by
  refine returns_shaped (C := Tryd.checked) (X := fun w _ => laidMetH Tryd.prog laidL w) (fun _ _ _ hh h => h.of_heap hh) own started (by kernel_rfl) Tryd.func3
    (ChangeSpec.witness_shaped (enc := enc) (C := Tryd.checked) (os := os) (X := fun w _ => laidMetH Tryd.prog laidL w) false (World.laidAll Tryd.prog os laidL) #[.string ByteArray.empty] 8 (World.laidAll_os _ _ _)
      (World.shaped_of_ZipB (by kernel_rfl) (by kernel_rfl)) (by kernel_rfl) (by kernel_rfl) (by kernel_rfl)
      (by rw [MakeChecks.laidMetH_plain _ _ _ (by kernel_rfl)]; exact laidMet_laidAll _ (by kernel_rfl) (by kernel_rfl))) ?_
  intro W base args ds gs before hval0 hW _ hsh
  have hval : ∀ (j : Nat) t v, Tryd.f3.params[j]? = some t → args[j]? = some v → Value.okWide Tryd.prog W .any base t v := hval0
  have hW' := hW
  obtain ⟨p, q, hA0, hV, rfl, _, _⟩ := hW
  have hA : DataW.TrodAll enc Tryd.prog W 0 (fun _ => true) true Tryd.f3.params.toList args.toList ds p := hA0
  rw [Tryd.params3] at hA hval
  obtain ⟨v0, d0, rfl, rfl, h0⟩ := trodAll_one hA
  obtain ⟨rfl, rfl⟩ := trodVars_none hV
  obtain ⟨s, rfl, rfl, rfl, ws⟩ := open_string Tryd.underlying9 (hval 0 9 v0 rfl rfl) h0
  simp only [List.append_nil] at hW'
  refine (law s W hsh).mono fun e W' ⟨he, hb⟩ => ?_
  subst he
  exact ⟨_, rfl, _, _, _, [], [], [], hW', trodAll_mk1 (shut_bool Tryd.underlying4 _), trodAll_mk1 (shut_string Tryd.underlying9 ws), rfl, hb.frame _, fun h => by cases h⟩

theorem holds : Rows.FnParseKeepsEveryDeclarationLineInOrderSaid :=
  OpenClaim.holds_of_wide 3 Tryd.f3 rfl rfl rfl rfl rfl rfl rfl ⟨rfl, rfl, rfl, rfl, rfl⟩ rfl rfl rfl rfl rfl (by kernel_rfl) Tryd.func3 (by kernel_rfl)
    (of_decide_eq_true (by kernel_rfl)) (by unfold Func.isWrapper; first | (rw [if_pos (by decide +kernel)]; kernel_rfl) | (rw [if_neg (by decide +kernel)]; exact ⟨rfl, rfl⟩))
    (fun os started H enc _ => lifted os started H enc)

theorem keeps_card : Rows.FnParseKeepsEveryDeclarationLineInOrderCardSaid :=
  Claim7.holds_tied_plain_at .later [] [.data, .pinned] true (true, "d3ba2fd0bfb20e0365a0a9317ca871fbd5d309030ef9f22e4b067c9895614dec") false holds (fun _ h => by cases h) (by kernel_rfl) (fun _ h => by cases h) fnParseKeepsEveryDeclarationLineInOrder_row_tie rfl ⟨rfl, rfl⟩ (by kernel_rfl) rfl
    (fun f fn hf hfn => by
      obtain rfl : f = 3 := Option.some.inj ((show Tryd.prog.funcNamed Rows.fnParseKeepsEveryDeclarationLineInOrderRow.func = some 3 by kernel_rfl).symm.trans hf) |>.symm
      obtain rfl : fn = Tryd.f3 := (Option.some.inj (Tryd.func3.symm.trans hfn)).symm
      exact ⟨by kernel_rfl, fun j t ht => by
        rw [Tryd.params3] at ht
        have hm : t ∈ [9] := by simpa using Array.mem_of_getElem? ht
        have hall : ([9].all fun u => !Tryd.prog.wantsStandIn u) = true := by kernel_rfl
        exact (show Tryd.prog.wantsStandIn t = false by simpa using List.all_eq_true.1 hall t hm)⟩)
    (by kernel_rfl)
end Go.Proofs.Qxb6602240aDoor

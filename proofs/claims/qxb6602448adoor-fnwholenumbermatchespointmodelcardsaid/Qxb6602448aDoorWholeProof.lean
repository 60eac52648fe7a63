/-
  Seat b6602448aD: FnWholeNumberMatchesPointModel: the row, the tied card.
-/
import Derived.Test.Qxb6602448aDoorLaw
import Derived.Test.Qxb6602448aDoorTie
import Derived.Test.Qxb6602448aDoorCards
import Derived.ProofKit
import Derived.OpenShut
import Derived.ShutString
import Derived.ChangeOld
import Derived.LaidMore
import Derived.Lay
import Derived.SevenTiedAt
import Derived.Stop.Joined
import Derived.Lib.LaidU8T
import Derived.PinnedBridge
import Derived.Shelf.Vars
namespace Go.Proofs.Qxb6602448aDoor
open Go.ChangeShapes Go.WideShapes Go.ChangeAt Go.RowKit

theorem own : ownKnob Tryd.prog.godebug = none := by kernel_rfl
theorem laidOut : laidOutB Tryd.prog = true := by kernel_rfl
def laidL : List (String × DataW Unit) := Rows.fnWholeNumberMatchesPointModelRow.laid

/-- This dump's numbers for the shelf's words on unicode/utf8's two tables. -/
def u8ren : Go.Shelf.Ren := ⟨fun n => n, fun | 119 => 74 | 138 => 76 | 139 => 77 | n => n, fun | 3 => 1 | 4 => 2 | n => n⟩
theorem u8types : U8Types Tryd.prog u8ren := ⟨by kernel_rfl, by kernel_rfl, by kernel_rfl, by kernel_rfl⟩
theorem u8extra : U8Extra Tryd.prog u8ren := ⟨by kernel_rfl, by kernel_rfl, by kernel_rfl, by kernel_rfl, by kernel_rfl, by kernel_rfl, by kernel_rfl⟩
theorem accept_eq : (Rows.laid_unicode_utf8_acceptRanges : DataW Unit) = Lib.acceptData := by kernel_rfl

theorem vars_of {W : World} (hL : laidMetH Tryd.prog laidL W) (hsh : W.ShapedOpen Tryd.prog) : Vars W := by
  rw [MakeChecks.laidMetH_plain _ _ _ (by kernel_rfl)] at hL
  have h1 := Lib.laidMet.reads hL (.head _)
  have h2 := Lib.laidMet.reads hL (.tail _ (.head _))
  have hT : Lib.Utf8Tabs 1 2 W := utf8Tabs_of_readsT u8types u8extra (Pinned.utf8First_eq ▸ h2) (accept_eq ▸ h1)
  refine ⟨hT, ?_, ?_⟩
  · exact cell_of_shapedOpen_int (t := 3) (zero := #[.int .i64 0]) hsh (by decide +kernel) (by kernel_rfl) rfl (by kernel_rfl) (by kernel_rfl) Tryd.underlying3
  · exact World.block_lt_of_cell? W ⟨2, 2 * 0, none⟩ (hT.2 0 (by omega)).1

def IsRow (w : World) (a : Option Addr) (len cap : Nat) (zs : List Int) : Prop :=
  (a = none ∧ len = 0 ∧ cap = 0 ∧ zs = []) ∨
  ∃ x, a = some x ∧ len ≤ cap ∧ cap ≤ maxLen ∧ zs.length = cap ∧ (∀ i, i < zs.length → w.cell? (x.add i) = some (.int .u8 (zs.getD i 0))) ∧ ∀ n ∈ zs, (Lit.int .u8 n).wf = true

/-- The wrap that keeps both the condition X and the world's shape. -/
theorem returns_shaped {H : Type} {enc : TypeId × Value → H} {a : Assume} {C : Checked} {os : Os} {f : FuncId} {fn : Func} {s : ChangeSpec} {conds : List PathCond} {apart fresh handsOn again : Bool} {X : World → Array Value → Prop}
    (hX : ∀ (w w' : World) (args : Array Value), w.heap = w'.heap → X w args → X w' args)
    (own : ownKnob C.prog.godebug = none) (started : os.Started) (noInit : C.prog.inits.idxOf? f = none) (hfn : C.prog.funcs[f]? = some fn)
    (witness : ∃ (w : World) (tape : Tape) (i : Input), w.os = os ∧ (w.forCall tape i).Shaped C.prog ∧ i.vars = [] ∧ Input.okWide C.prog (w.forCall tape i) .any w.heap.size f i ∧
      ((s.pre enc C.prog fn conds apart (w.forCall tape i).memory i.args ∧ X (w.forCall tape i).memory i.args) ∧ sizedMet enc C.prog fn (OpenSpec.ofChange s) apart (w.forCall tape i).memory i.args) ∧ a.holds C.prog (lone (Frame.enter C.prog f i.args .normal) [] (w.forCall tape i)))
    (contract : ∀ (W : World) (base : Nat) (args : Array Value) (ds gs : List (DataW H)) (before : List MemPlace),
      (∀ (j : Nat) t v, fn.params[j]? = some t → args[j]? = some v → Value.okWide C.prog W .any base t v) →
      DataW.Whole enc C.prog fn.params.toList s.vars apart W args.toList ds gs before →
      X W args → W.ShapedOpen C.prog →
      Calls C.prog f args W fun e W' => ∃ v, e = .returned v ∧ s.post enc C.prog fn apart fresh handsOn again W args v W') :
    ReturnsInHanded a C os f .any (fun w args => (s.pre enc C.prog fn conds apart w args ∧ X w args) ∧ sizedMet enc C.prog fn (OpenSpec.ofChange s) apart w args) (s.post enc C.prog fn apart fresh handsOn again) := by
  refine returnsInHanded_of_calls own started noInit witness ?_
  intro w tape i _ hsh _ hok hpre hholds
  obtain ⟨_, _, _, fn', hfn', _, _, _, _, hval⟩ := hok
  have e : fn' = fn := Option.some.inj (hfn'.symm.trans hfn)
  subst e
  obtain ⟨⟨⟨ds, gs, before, hw, hc⟩, hx⟩, hz⟩ := hpre
  have hw' := DataW.Whole.of_heap (w' := w.forCall tape i) (by rfl) hw
  refine (contract (w.forCall tape i) w.heap.size i.args ds gs before hval hw' (hX _ _ _ (by rfl) hx) hsh).mono fun e W' ⟨v, he, hp⟩ => ?_
  subst he
  exact ChangeSpec.post_blind hp

theorem row_len {w : World} {a : Option Addr} {len cap : Nat} {zs : List Int} (h : IsRow w a len cap zs) : len ≤ 9223372036854775807 := by
  rcases h with ⟨_, rfl, _, _⟩ | ⟨_, _, hl, hm, _⟩
  · omega
  · unfold maxLen at hm; omega

/-- The law at whatever slice of bytes came in. -/
theorem law3 (a : Option Addr) (len cap : Nat) (zs : List Int) (w : World) (h : IsRow w a len cap zs) (hv : Vars w) :
    Calls Tryd.prog 3 #[.slice a len cap] w fun e w' => e = .returned (.bool true) ∧ Below w.heap.size w w' := by
  have hlen := row_len h
  by_cases hn : len ≤ 1048576
  · by_cases h0 : len = 0
    · subst h0
      refine law_core a 0 cap w (by omega) none false ((dom_none a cap w).mono fun e w' ⟨he, hw⟩ => ⟨he, hw ▸ Below.refl _ _⟩) (fun W hW => ?_)
      have fin : ∀ (a' : Option Addr) (c' : Nat) (W' : World), Calls Tryd.prog 9 #[.slice a' 0 c'] W' (fun e w2 => ∃ v, e = .returned (.tuple #[v, .bool false]) ∧ Below W'.heap.size W' w2 ∧ Out w2 v none ∧
          Calls Tryd.prog 10 #[.slice a' 0 c'] w2 (fun e w3 => ∃ v', e = .returned (.tuple #[v', .bool (Option.isNone (none : Option (List UInt8))), .bool false]) ∧ Below w2.heap.size w2 w3 ∧ Same w3 v v' none)) := fun a' c' W' => by
        refine (wh_empty a' c' W').mono ?_
        rintro e w2 ⟨rfl, rfl⟩
        refine ⟨_, rfl, Below.refl _ _, rfl, ?_⟩
        refine (mod_empty a' c' w2).mono ?_
        rintro e w3 ⟨rfl, rfl⟩
        exact ⟨_, rfl, Below.refl _ _, ⟨rfl, rfl, fun l e => by cases e⟩⟩
      rcases h with ⟨rfl, _, rfl, rfl⟩ | ⟨x, rfl, _⟩
      · refine (clone_nil W).mono ?_
        rintro e w' ⟨rfl, rfl⟩
        exact ⟨_, rfl, Below.refl _ _, fin none 0 w'⟩
      · refine (clone_none x cap W).mono ?_
        rintro e w' ⟨rfl, rfl⟩
        exact ⟨_, rfl, below_alloc _ _, fin _ _ _⟩
    · rcases h with ⟨_, e, _⟩ | ⟨x, rfl, hl, hm, hz, hcell, hwz⟩
      · exact absurd e h0
      · obtain ⟨b, off, rfl, hc⟩ := ints_at hcell (by omega)
        have hbl : ((zs.take len).map fun z => z.toNat.toUInt8).length = len := by simp; omega
        have hcl : Row w b off ((zs.take len).map fun z => z.toNat.toUInt8) := by
          intro k hk
          rw [hbl] at hk
          rw [hc k (by omega)]
          have hb := bounds_u8 (hwz (zs.getD k 0) (by rw [List.getD, List.getElem?_eq_getElem (by omega)]; exact List.getElem_mem _))
          have e : ((zs.take len).map fun z => z.toNat.toUInt8).getD k 0 = (zs.getD k 0).toNat.toUInt8 := by
            simp only [List.getD, List.getElem?_map, List.getElem?_take, if_pos hk]
            rw [List.getElem?_eq_getElem (by omega)]
            rfl
          rw [e]
          unfold val
          congr 2
          have : (zs.getD k 0).toNat.toUInt8.toNat = (zs.getD k 0).toNat := by
            show ((zs.getD k 0).toNat % 256) = _
            omega
          omega
        have := law_row b off cap _ w (by rw [hbl]; omega) (by rw [hbl]; exact hn) hcl hv
        rw [hbl] at this
        exact this
  · exact law_long a len cap w hlen hn

set_option maxRecDepth 100000 in
theorem lifted3 (os : Os) (started : os.Started) (H : Type) (enc : TypeId × Value → H) :
    ReturnsInHanded {} Tryd.checked os 3 .any (fun w args => (Rows.fnWholeNumberMatchesPointModelSpec.pre enc Tryd.prog Tryd.f3 [] false w args ∧ laidMetH Tryd.prog laidL w) ∧ sizedMet enc Tryd.prog Tryd.f3 (OpenSpec.ofChange Rows.fnWholeNumberMatchesPointModelSpec) false w args)
      (Rows.fnWholeNumberMatchesPointModelSpec.post enc Tryd.prog Tryd.f3 false true false false) := by
  refine returns_shaped (C := Tryd.checked) (X := fun w _ => laidMetH Tryd.prog laidL w) (fun _ _ _ hh h => h.of_heap hh) own started (by kernel_rfl) Tryd.func3
    (ChangeSpec.witness_shaped (enc := enc) (C := Tryd.checked) (os := os) (X := fun w _ => laidMetH Tryd.prog laidL w) false (World.laidAll Tryd.prog os laidL) #[.slice none 0 0] 8 (World.laidAll_os _ _ _)
      (World.shaped_of_ZipB (by kernel_rfl) (by kernel_rfl)) (by kernel_rfl) (by kernel_rfl) (by kernel_rfl)
      (by rw [MakeChecks.laidMetH_plain _ _ _ (by kernel_rfl)]; exact laidMet_laidAll _ (by kernel_rfl) (by kernel_rfl))) ?_
  intro W base args ds gs before hval0 hW hL hsh
  have hval : ∀ (j : Nat) t v, Tryd.f3.params[j]? = some t → args[j]? = some v → Value.okWide Tryd.prog W .any base t v := hval0
  have hW' := hW
  obtain ⟨p, q, hA0, hV, rfl, _, _⟩ := hW
  have hA : DataW.TrodAll enc Tryd.prog W 0 (fun _ => true) true Tryd.f3.params.toList args.toList ds p := hA0
  rw [Tryd.params3] at hA hval
  obtain ⟨v0, d0, rfl, rfl, h0⟩ := trodAll_one hA
  obtain ⟨rfl, rfl⟩ := trodVars_none hV
  obtain ⟨a0, len0, cap0, rfl⟩ := okWide_slice Tryd.underlying22 (hval 0 22 v0 rfl rfl)
  have k0 := h0
  have lt0 : ∀ x ∈ p, x.block < W.heap.size := by obtain ⟨m, hm⟩ := k0; exact DataW.trod_lt m _ _ _ hm
  obtain ⟨z0, w0⟩ : ∃ zs, IsRow W a0 len0 cap0 zs := by
    obtain ⟨fuel, hf⟩ := h0
    rcases open_ints Tryd.underlying22 Tryd.underlying5 (by kernel_rfl) hf with ⟨hcs, _⟩ | ⟨x, l, c, zs, hcs, _, hl, hm, hz, _, hcell, hwz⟩
    · simp [Value.cells] at hcs
      obtain ⟨rfl, rfl, rfl⟩ := hcs
      exact ⟨[], .inl ⟨rfl, rfl, rfl, rfl⟩⟩
    · simp [Value.cells] at hcs
      obtain ⟨rfl, rfl, rfl⟩ := hcs
      exact ⟨zs, .inr ⟨_, rfl, hl, hm, by simpa using hz, hcell, hwz⟩⟩
  clear hA0 hval0
  refine (law3 a0 len0 cap0 z0 W w0 (vars_of hL hsh)).mono fun e W' ⟨he, bel⟩ => ?_
  subst he
  exact ⟨_, rfl, _, _, _, [], _, [], hW', trodAll_mk1 (shut_bool Tryd.underlying4 _), trodAll_mk1 (Below.trod laidOut (by kernel_rfl) (of_decide_eq_true (by kernel_rfl)) k0 bel lt0), rfl, bel.frame _, fun h => by cases h⟩

theorem holds3 : Rows.FnWholeNumberMatchesPointModelSaid :=
  OpenClaim.holds_of_wide 3 Tryd.f3 rfl rfl rfl rfl rfl rfl rfl ⟨rfl, rfl, rfl, rfl, rfl⟩ rfl rfl rfl rfl rfl (by kernel_rfl) Tryd.func3 (by kernel_rfl)
    (of_decide_eq_true (by kernel_rfl)) (by unfold Func.isWrapper; first | (rw [if_pos (by decide +kernel)]; kernel_rfl) | (rw [if_neg (by decide +kernel)]; exact ⟨rfl, rfl⟩))
    (fun os started H enc _ => lifted3 os started H enc)

theorem whole_card : Rows.FnWholeNumberMatchesPointModelCardSaid :=
  Claim7.holds_tied_plain_at .later [] [.data, .pinned] true (true, "be2767cd1e87775960557dec8576a743abab03e08c1a458f74d48653bea03938") false holds3 (fun _ h => by cases h) (by kernel_rfl) (fun _ h => by cases h) fnWholeNumberMatchesPointModel_row_tie rfl ⟨rfl, rfl⟩ (by kernel_rfl) rfl
    (fun f fn hf hfn => by
      obtain rfl : f = 3 := Option.some.inj ((show Tryd.prog.funcNamed Rows.fnWholeNumberMatchesPointModelRow.func = some 3 by kernel_rfl).symm.trans hf) |>.symm
      obtain rfl : fn = Tryd.f3 := (Option.some.inj (Tryd.func3.symm.trans hfn)).symm
      exact ⟨by kernel_rfl, fun j t ht => by
        rw [Tryd.params3] at ht
        have hm : t ∈ [22] := by simpa using Array.mem_of_getElem? ht
        have hall : ([22].all fun u => !Tryd.prog.wantsStandIn u) = true := by kernel_rfl
        exact (show Tryd.prog.wantsStandIn t = false by simpa using List.all_eq_true.1 hall t hm)⟩)
    (by kernel_rfl)
end Go.Proofs.Qxb6602448aDoor

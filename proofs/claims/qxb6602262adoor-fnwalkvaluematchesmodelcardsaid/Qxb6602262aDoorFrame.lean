/-
  Seat b6602262aD: what both laws' rows share: the arguments opened, the package-level variables read, the copy.
-/
import Derived.Test.Qxb6602262aDoorBounds
import Derived.Test.Qxb6602262aDoorTie
import Derived.Test.Qxb6602262aDoorCards
import Derived.ProofKit
import Derived.OpenShut
import Derived.ShutString
import Derived.ChangeOld
import Derived.LaidMore
import Derived.Lay
import Derived.SevenTiedAt
import Derived.Stop.Joined
import Derived.Lib.LaidU8T
import Derived.PinnedBridge
import Derived.Shelf.Vars
namespace Go.Proofs.Qxb6602262aDoor
open Go.ChangeShapes Go.WideShapes Go.ChangeAt Go.RowKit

theorem own : ownKnob Tryd.prog.godebug = none := by kernel_rfl
theorem laidOut : laidOutB Tryd.prog = true := by kernel_rfl
def laidL : List (String × DataW Unit) := Rows.fnWalkValueBoundsAndPrefixRow.laid

/-- This dump's numbers for the shelf's words on unicode/utf8's two tables. -/
def u8ren : Go.Shelf.Ren := ⟨fun n => n, fun | 119 => 48 | 138 => 50 | 139 => 51 | n => n, fun | 3 => 1 | 4 => 2 | n => n⟩
theorem u8types : U8Types Tryd.prog u8ren := ⟨by kernel_rfl, by kernel_rfl, by kernel_rfl, by kernel_rfl⟩
theorem u8extra : U8Extra Tryd.prog u8ren := ⟨by kernel_rfl, by kernel_rfl, by kernel_rfl, by kernel_rfl, by kernel_rfl, by kernel_rfl, by kernel_rfl⟩
theorem accept_eq : (Rows.laid_unicode_utf8_acceptRanges : DataW Unit) = Lib.acceptData := by kernel_rfl

theorem vars_of {W : World} (hL : laidMetH Tryd.prog laidL W) (hsh : W.ShapedOpen Tryd.prog) : Vars W := by
  rw [MakeChecks.laidMetH_plain _ _ _ (by kernel_rfl)] at hL
  have h1 := Lib.laidMet.reads hL (.head _)
  have h2 := Lib.laidMet.reads hL (.tail _ (.head _))
  have hT : Lib.Utf8Tabs 1 2 W := utf8Tabs_of_readsT u8types u8extra (Pinned.utf8First_eq ▸ h2) (accept_eq ▸ h1)
  refine ⟨hT, ?_, ?_⟩
  · exact cell_of_shapedOpen_int (t := 3) (zero := #[.int .i64 0]) hsh (by decide +kernel) (by kernel_rfl) rfl (by kernel_rfl) (by kernel_rfl) Tryd.underlying3
  · exact World.block_lt_of_cell? W ⟨2, 2 * 0, none⟩ (hT.2 0 (by omega)).1

def IsRow (w : World) (a : Option Addr) (len cap : Nat) (zs : List Int) : Prop :=
  (a = none ∧ len = 0 ∧ cap = 0 ∧ zs = []) ∨
  ∃ x, a = some x ∧ len ≤ cap ∧ cap ≤ maxLen ∧ zs.length = cap ∧ (∀ i, i < zs.length → w.cell? (x.add i) = some (.int .u8 (zs.getD i 0))) ∧ ∀ n ∈ zs, (Lit.int .u8 n).wf = true

/-- zzCloneB1 at whatever slice of bytes came in. -/
theorem clone_row (a : Option Addr) (len cap : Nat) (zs : List Int) (w : World) (h : IsRow w a len cap zs) (hn : len ≤ 65536) :
    ∃ (bs : List UInt8) (a' : Option Addr) (W : World), bs.length = len ∧ Below w.heap.size w W ∧ (0 < len → ∃ g, a' = some ⟨g, 0, none⟩ ∧ Holds W g bs) ∧
      Calls Tryd.prog 6 #[.slice a len cap] w fun e w' => e = .returned (.slice a' len len) ∧ w' = W := by
  rcases h with ⟨rfl, rfl, rfl, rfl⟩ | ⟨x, rfl, hl, hm, hz, hcell, hwz⟩
  · exact ⟨[], none, w, rfl, Below.refl _ _, fun h => absurd h (Nat.lt_irrefl _), clone_nil w⟩
  · by_cases h0 : len = 0
    · subst h0
      exact ⟨[], some ⟨w.heap.size, 0, none⟩, _, rfl, (Below.refl _ _).alloc (Nat.le_refl _) _, fun h => absurd h (Nat.lt_irrefl _), clone_none x cap w⟩
    · obtain ⟨b, off, rfl, hc⟩ := ints_at hcell (by omega)
      have hbl : ((zs.take len).map fun z => z.toNat.toUInt8).length = len := by simp; omega
      have hcl : ∀ k, k < ((zs.take len).map fun z => z.toNat.toUInt8).length → w.cell? ⟨b, off + k, none⟩ = some (val (((zs.take len).map fun z => z.toNat.toUInt8).getD k 0)) := by
        intro k hk
        rw [hbl] at hk
        rw [hc k (by omega)]
        have hb := bounds_u8 (hwz (zs.getD k 0) (by rw [List.getD, List.getElem?_eq_getElem (by omega)]; exact List.getElem_mem _))
        have e : ((zs.take len).map fun z => z.toNat.toUInt8).getD k 0 = (zs.getD k 0).toNat.toUInt8 := by
          simp only [List.getD, List.getElem?_map, List.getElem?_take, if_pos hk]
          rw [List.getElem?_eq_getElem (by omega)]
          rfl
        rw [e]
        unfold val
        congr 2
        have : (zs.getD k 0).toNat.toUInt8.toNat = (zs.getD k 0).toNat := by
          show ((zs.getD k 0).toNat % 256) = _
          omega
        omega
      have c := clone_some b off cap _ w (by omega) hcl
      rw [hbl] at c
      exact ⟨_, some ⟨w.heap.size, 0, none⟩, _, hbl, (Below.refl _ _).alloc (Nat.le_refl _) _, fun _ => ⟨w.heap.size, rfl, holds_new w _⟩, c⟩

/-- The wrap that keeps both the condition X and the world's shape. -/
theorem returns_shaped {H : Type} {enc : TypeId × Value → H} {a : Assume} {C : Checked} {os : Os} {f : FuncId} {fn : Func} {s : ChangeSpec} {conds : List PathCond} {apart fresh handsOn again : Bool} {X : World → Array Value → Prop}
    (hX : ∀ (w w' : World) (args : Array Value), w.heap = w'.heap → X w args → X w' args)
    (own : ownKnob C.prog.godebug = none) (started : os.Started) (noInit : C.prog.inits.idxOf? f = none) (hfn : C.prog.funcs[f]? = some fn)
    (witness : ∃ (w : World) (tape : Tape) (i : Input), w.os = os ∧ (w.forCall tape i).Shaped C.prog ∧ i.vars = [] ∧ Input.okWide C.prog (w.forCall tape i) .any w.heap.size f i ∧
      ((s.pre enc C.prog fn conds apart (w.forCall tape i).memory i.args ∧ X (w.forCall tape i).memory i.args) ∧ sizedMet enc C.prog fn (OpenSpec.ofChange s) apart (w.forCall tape i).memory i.args) ∧ a.holds C.prog (lone (Frame.enter C.prog f i.args .normal) [] (w.forCall tape i)))
    (contract : ∀ (W : World) (base : Nat) (args : Array Value) (ds gs : List (DataW H)) (before : List MemPlace),
      (∀ (j : Nat) t v, fn.params[j]? = some t → args[j]? = some v → Value.okWide C.prog W .any base t v) →
      DataW.Whole enc C.prog fn.params.toList s.vars apart W args.toList ds gs before →
      X W args → W.ShapedOpen C.prog →
      Calls C.prog f args W fun e W' => ∃ v, e = .returned v ∧ s.post enc C.prog fn apart fresh handsOn again W args v W') :
    ReturnsInHanded a C os f .any (fun w args => (s.pre enc C.prog fn conds apart w args ∧ X w args) ∧ sizedMet enc C.prog fn (OpenSpec.ofChange s) apart w args) (s.post enc C.prog fn apart fresh handsOn again) := by
  refine returnsInHanded_of_calls own started noInit witness ?_
  intro w tape i _ hsh _ hok hpre hholds
  obtain ⟨_, _, _, fn', hfn', _, _, _, _, hval⟩ := hok
  have e : fn' = fn := Option.some.inj (hfn'.symm.trans hfn)
  subst e
  obtain ⟨⟨⟨ds, gs, before, hw, hc⟩, hx⟩, hz⟩ := hpre
  have hw' := DataW.Whole.of_heap (w' := w.forCall tape i) (by rfl) hw
  refine (contract (w.forCall tape i) w.heap.size i.args ds gs before hval hw' (hX _ _ _ (by rfl) hx) hsh).mono fun e W' ⟨v, he, hp⟩ => ?_
  subst he
  exact ChangeSpec.post_blind hp

theorem row_len {w : World} {a : Option Addr} {len cap : Nat} {zs : List Int} (h : IsRow w a len cap zs) : len ≤ 9223372036854775807 := by
  rcases h with ⟨_, rfl, _, _⟩ | ⟨_, _, hl, hm, _⟩
  · omega
  · unfold maxLen at hm; omega
end Go.Proofs.Qxb6602262aDoor

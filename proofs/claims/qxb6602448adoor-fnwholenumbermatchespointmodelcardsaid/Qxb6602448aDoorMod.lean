/-
  Seat b6602448aD: zzb1ModelWhole (10).
-/
import Derived.Test.Qxb6602448aDoorDom
import Derived.Test.Qxb6602448aDoorApp
import Derived.Test.Qxb6602448aDoorDig
namespace Go.Proofs.Qxb6602448aDoor
open Go.RowKit

/-- What a result reads as: nil, or a slice that is not nil and holds l. -/
def Out (w : World) (v : Value) : Option (List UInt8) → Prop
  | none => v = .slice none 0 0
  | some l => ∃ b off c, v = .slice (some ⟨b, off, none⟩) l.length c ∧ Row w b off l

theorem OwnB.outv {w0 w : World} {v : Value} {l : List UInt8} (h : OwnB w0 w v l) : Out w v (some l) := by
  obtain ⟨g, cap, e, _, _, hr⟩ := h.row
  exact ⟨g, 0, cap, e, hr⟩

/-- Where the scan stands behind k bytes. -/
def Scan (m : List UInt8) (k : Nat) (F L : Int) : Prop :=
  (F = -1 ∧ L = -1 ∧ ∀ j, j < k → m.getD j 0 = 48) ∨
  ∃ f la : Nat, F = f ∧ L = la ∧ f ≤ la ∧ la < k ∧ m.getD f 0 ≠ 48 ∧ m.getD la 0 ≠ 48 ∧ (∀ j, j < f → m.getD j 0 = 48) ∧ ∀ j, la < j → j < k → m.getD j 0 = 48
theorem Scan.zero {m : List UInt8} {k : Nat} {F L : Int} (h : Scan m k F L) (hx : m.getD k 0 = 48) : Scan m (k + 1) F L := by
  rcases h with ⟨h1, h2, h3⟩ | ⟨f, la, h1, h2, h3, h4, h5, h6, h7, h8⟩
  · refine .inl ⟨h1, h2, fun j hj => ?_⟩
    by_cases e : j = k
    · rw [e]; exact hx
    · exact h3 j (by omega)
  · refine .inr ⟨f, la, h1, h2, h3, by omega, h5, h6, h7, fun j hj hk => ?_⟩
    by_cases e : j = k
    · rw [e]; exact hx
    · exact h8 j hj (by omega)
theorem Scan.first {m : List UInt8} {k : Nat} {F L : Int} (h : Scan m k F L) (hF : F < 0) (hx : m.getD k 0 ≠ 48) : Scan m (k + 1) k k := by
  rcases h with ⟨h1, h2, h3⟩ | ⟨f, la, h1, _⟩
  · exact .inr ⟨k, k, rfl, rfl, Nat.le_refl _, by omega, hx, hx, h3, fun j hj hk => by omega⟩
  · omega
theorem Scan.next {m : List UInt8} {k : Nat} {F L : Int} (h : Scan m k F L) (hF : ¬ F < 0) (hx : m.getD k 0 ≠ 48) : Scan m (k + 1) F k := by
  rcases h with ⟨h1, h2, h3⟩ | ⟨f, la, h1, h2, h3, h4, h5, h6, h7, h8⟩
  · omega
  · exact .inr ⟨f, k, h1, rfl, by omega, by omega, h5, hx, h7, fun j hj hk => by omega⟩
theorem Scan.done {m : List UInt8} {F L : Int} (h : Scan m m.length F L) : (F = -1 ∧ AllZ m) ∨ ∃ f la : Nat, F = f ∧ L = la ∧ NZ m f la := by
  rcases h with ⟨h1, h2, h3⟩ | ⟨f, la, h1, h2, h3, h4, h5, h6, h7, h8⟩
  · exact .inl ⟨h1, h3⟩
  · exact .inr ⟨f, la, h1, h2, ⟨h3, h4, h5, h6, h7, h8⟩⟩
theorem Scan.bd {m : List UInt8} {k : Nat} {F L : Int} (h : Scan m k F L) : -1 ≤ F ∧ F < k + 1 ∧ -1 ≤ L ∧ L < k + 1 := by
  rcases h with ⟨h1, h2, h3⟩ | ⟨f, la, h1, h2, h3, h4, h5⟩ <;> omega

/-- What zzb1ModelWhole hands back. -/
def ModOf (bs : List UInt8) (w : World) (e : Ending) (w' : World) : Prop :=
  ∃ v bl r, e = .returned (.tuple #[v, .bool (Option.isNone r), .bool bl]) ∧ Below w.heap.size w w' ∧ Out w' v r ∧ Res (decide (J0 bs = 1)) (Mm bs) (WL bs) (expOf 1099511627776 bs) r bl

theorem modNone (w : World) : Out w (.slice none 0 0) none := rfl

theorem res_zero {mn : Bool} {m : List UInt8} {wl : Nat} {p : Int} (h : AllZ m) : Res mn m wl p (some [48]) true :=
  ⟨fun _ => ⟨rfl, rfl⟩, fun _ _ hn => absurd h (nz_not hn), fun _ _ hn => absurd h (nz_not hn), fun _ _ hn => absurd h (nz_not hn)⟩
theorem nz_one {m : List UInt8} {f la f' la' : Nat} (h : NZ m f la) (h' : NZ m f' la') : f = f' ∧ la = la' := by
  have a1 := h.le; have a2 := h.lt; have b1 := h'.le; have b2 := h'.lt
  constructor
  · rcases Nat.lt_trichotomy f f' with e | e | e
    · exact absurd (h'.zf f e) h.nf
    · exact e
    · exact absurd (h.zf f' e) h'.nf
  · rcases Nat.lt_trichotomy la la' with e | e | e
    · exact absurd (h.zl la' e b2) h'.nl
    · exact e
    · exact absurd (h'.zl la e a2) h.nl
theorem res_frac {mn : Bool} {m : List UInt8} {wl f la : Nat} {p : Int} (h : NZ m f la) (h1 : (wl : Int) + p ≤ la) : Res mn m wl p none false := by
  refine ⟨fun e => absurd e (nz_not h), fun _ _ _ _ => ⟨rfl, rfl⟩, ?_, ?_⟩
  · intro f' la' h' c1; obtain ⟨rfl, rfl⟩ := nz_one h h'; exact absurd h1 c1
  · intro f' la' h' c1; obtain ⟨rfl, rfl⟩ := nz_one h h'; exact absurd h1 c1
theorem res_great {mn : Bool} {m : List UInt8} {wl f la : Nat} {p : Int} (h : NZ m f la) (h1 : ¬ (wl : Int) + p ≤ la) (h2 : 20 < (wl : Int) + p - f) : Res mn m wl p none true := by
  refine ⟨fun e => absurd e (nz_not h), ?_, fun _ _ _ _ _ => ⟨rfl, rfl⟩, ?_⟩
  · intro f' la' h' c1; obtain ⟨rfl, rfl⟩ := nz_one h h'; exact absurd c1 h1
  · intro f' la' h' _ c2; obtain ⟨rfl, rfl⟩ := nz_one h h'; exact absurd h2 c2
theorem res_whole {mn : Bool} {m : List UInt8} {wl f la : Nat} {p : Int} (h : NZ m f la) (h1 : ¬ (wl : Int) + p ≤ la) (h2 : ¬ 20 < (wl : Int) + p - f) : Res mn m wl p (some (sgn mn ++ digitsTo m f la (wl + p))) true := by
  refine ⟨fun e => absurd e (nz_not h), ?_, ?_, ?_⟩
  · intro f' la' h' c1; obtain ⟨rfl, rfl⟩ := nz_one h h'; exact absurd c1 h1
  · intro f' la' h' _ c2; obtain ⟨rfl, rfl⟩ := nz_one h h'; exact absurd c2 h2
  · intro f' la' h' _ _; obtain ⟨rfl, rfl⟩ := nz_one h h'; exact ⟨rfl, rfl⟩
end Go.Proofs.Qxb6602448aDoor

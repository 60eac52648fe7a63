/-
  Seat b6602448aD: a slice of bytes of the call's own; make; five results.
-/
import Derived.Test.Qxb6602448aDoorBase
import Derived.Deep.DeepCutAuto
import Derived.Deep.CutBlock
namespace Go.Proofs.Qxb6602448aDoor
open Go.RowKit

theorem info5' : Tryd.prog.info? 5 = some Tryd.t5 := by kernel_rfl
def V (l : List UInt8) : List Value := l.map val
theorem V_length (l : List UInt8) : (V l).length = l.length := List.length_map _

/-- v is a slice of the call's own (made since w0) that is not nil and holds l; nothing older has turned. -/
structure OwnB (w0 w : World) (v : Value) (l : List UInt8) : Prop where
  own : w.ownsRow w0.heap.size 5 1 v l.length (V l)
  some' : ∃ g cap, v = .slice (some ⟨g, 0, none⟩) l.length cap
  bel : Below w0.heap.size w0 w

theorem OwnB.push {w0 w w1 : World} {o : Obj} {v v' : Value} {l : List UInt8} {x : UInt8} {n : Nat} (h : OwnB w0 w v l)
    (h1 : w1.ownsRow w0.heap.size 5 1 v' n (V l ++ [.int .u8 x.toNat])) (h2 : (w.alloc o).grownBy w1 v.ownBlock) (hn : n = l.length + 1) : OwnB w0 w1 v' (l ++ [x]) where
  own := by
    subst hn
    have e : V (l ++ [x]) = V l ++ [.int .u8 x.toNat] := by simp [V, val]
    rw [e, List.length_append]; exact h1
  some' := by
    subst hn
    rcases h1.2 with ⟨_, e⟩ | ⟨g, cap, cur, rfl, _⟩
    · omega
    · exact ⟨g, cap, by rw [List.length_append]; rfl⟩
  bel := (h.bel.alloc (by have := h.bel.size; omega) o).grown h2 (by have := h.bel.size; simp; omega) (fun k e => (h.own.lt k e).1)

theorem OwnB.below {w0 w w' : World} {v : Value} {l : List UInt8} (h : OwnB w0 w v l) (hb : Below w.heap.size w w') : OwnB w0 w' v l where
  own := by
    obtain ⟨h1, h2⟩ := h.own
    refine ⟨h1, ?_⟩
    rcases h2 with h2 | ⟨g, cap, cur, hv, hg, hh, r⟩
    · exact .inl h2
    · have hlt : g < w.heap.size := by
        by_cases hl : g < w.heap.size
        · exact hl
        · rw [Array.getElem?_eq_none (by omega)] at hh; cases hh
      exact .inr ⟨g, cap, cur, hv, hg, (hb.block g hlt).trans hh, r⟩
  some' := h.some'
  bel := h.bel.trans (hb.mono h.bel.size)

/-- What it holds, cell by cell. -/
theorem OwnB.row {w0 w : World} {v : Value} {l : List UInt8} (h : OwnB w0 w v l) : ∃ g cap, v = .slice (some ⟨g, 0, none⟩) l.length cap ∧ l.length ≤ cap ∧ cap ≤ maxLen ∧ Row w g 0 l := by
  rcases h.own.2 with ⟨e, _⟩ | ⟨g, cap, cur, e, hbg, hh, hle, hmax, hcs, htake⟩
  · obtain ⟨g, cap, e2⟩ := h.some'
    rw [e] at e2; cases e2
  · refine ⟨g, cap, e, hle, hmax, fun k hk => ?_⟩
    have := h.own.cells (g := g) (by rw [e]; rfl) k (val (l.getD k 0)) (by simp [V, hk, List.getD])
    rw [Addr.add_lit] at this
    exact this

theorem make_run (n : Nat) (hn : n ≤ 2097152) (w : World) : (Instr.makeSlice 22 (.int .i64 0) (.int .i64 (n : Int))).run Tryd.prog w = .ok (.slice (some ⟨w.heap.size, 0, none⟩) 0 n) (w.alloc (.cells (madeCells #[.int .u8 0] n) 5)) := by
  have h := run_make (P := Tryd.prog) w 22 5 Tryd.t5 (.int .u8 0) Tryd.underlying22 info5' rfl .i64 .i64 0 (n : Int) (by omega) (by omega) (by show (1 : Int) * n ≤ _; omega) (by omega)
  simpa [Tryd.t5, Value.cells] using h

theorem OwnB.made (w : World) (n : Nat) (hn : n ≤ 2097152) : OwnB w (w.alloc (.cells (madeCells #[.int .u8 0] n) 5)) (.slice (some ⟨w.heap.size, 0, none⟩) 0 n) [] where
  own := World.ownsRow_made w _ n (Nat.le_refl _) (by unfold maxLen; omega) (by rw [size_madeCells]; omega)
  some' := ⟨_, _, rfl⟩
  bel := (Below.refl _ _).alloc (Nat.le_refl _) _

theorem results_tmp5 {fn : Func} {t u v x y : Tmp} (h : fn.results = #[.tmp t, .tmp u, .tmp v, .tmp x, .tmp y]) (tmps : Array Value) (P : Program) (w : World) :
    (results fn tmps).run P w = .ok (.tuple #[tmps.getD t undef, tmps.getD u undef, tmps.getD v undef, tmps.getD x undef, tmps.getD y undef]) w := by
  simp [results, h]
end Go.Proofs.Qxb6602448aDoor

/-
  Seat b6602448aD: what a slice of bytes holds, nil or not; append, whatever is appended.
-/
import Derived.Test.Qxb6602448aDoorOwn
import Derived.Deep.Upon
namespace Go.Proofs.Qxb6602448aDoor
open Go.RowKit

/-- v is a slice of bytes that reads as l. -/
structure Piece (w : World) (v : Value) (l : List UInt8) : Prop where
  form : ∃ p c, v = .slice p l.length c ∧ l.length ≤ c ∧ c ≤ 9223372036854775807
  row : l ≠ [] → ∃ b off c, v = .slice (some ⟨b, off, none⟩) l.length c ∧ Row w b off l

theorem Piece.below {w w' : World} {v : Value} {l : List UInt8} (h : Piece w v l) (hb : Below w.heap.size w w') : Piece w' v l :=
  ⟨h.form, fun hl => by obtain ⟨b, off, c, e, r⟩ := h.row hl; exact ⟨b, off, c, e, r.below hb⟩⟩
theorem Piece.mk' {w : World} {b off c : Nat} {l : List UInt8} (h : Row w b off l) (hc : l.length ≤ c) (hm : c ≤ 9223372036854775807) : Piece w (.slice (some ⟨b, off, none⟩) l.length c) l :=
  ⟨⟨_, _, rfl, hc, hm⟩, fun _ => ⟨b, off, c, rfl, h⟩⟩
theorem Piece.nil (w : World) (c : Nat) (hc : c ≤ 9223372036854775807) (p : Option Addr) : Piece w (.slice p 0 c) [] := ⟨⟨p, c, rfl, Nat.zero_le _, hc⟩, fun h => absurd rfl h⟩
theorem OwnB.piece {w0 w : World} {v : Value} {l : List UInt8} (h : OwnB w0 w v l) : Piece w v l := by
  obtain ⟨g, cap, rfl, h1, h2, hr⟩ := h.row
  exact Piece.mk' hr h1 (by unfold maxLen at h2; omega)
theorem OwnB.alloc {w0 w : World} {v : Value} {l : List UInt8} (h : OwnB w0 w v l) (o : Obj) : OwnB w0 (w.alloc o) v l := h.below ((Below.refl _ _).alloc (Nat.le_refl _) o)

theorem OwnB.grow {w0 w w1 : World} {v v' : Value} {l m : List UInt8} (h : OwnB w0 w v l)
    (h1 : w1.ownsRow w0.heap.size 5 1 v' (l.length + m.length) (V l ++ V m)) (h2 : w.grownBy w1 v.ownBlock) (h3 : v' = .slice none 0 0 ↔ v = .slice none 0 0 ∧ m.length = 0) : OwnB w0 w1 v' (l ++ m) where
  own := by
    have e : V (l ++ m) = V l ++ V m := by simp [V]
    rw [e, List.length_append]; exact h1
  some' := by
    rcases h1.2 with ⟨e, _⟩ | ⟨g, cap, cur, rfl, _⟩
    · obtain ⟨g, cap, e2⟩ := h.some'
      have := (h3.1 e).1
      rw [e2] at this
      cases this
    · exact ⟨g, cap, by rw [List.length_append]⟩
  bel := h.bel.grown h2 h.bel.size (fun k e => (h.own.lt k e).1)

theorem append_piece {w0 w : World} {ops : Array Oper} {rest : List Oper} {o : Oper} {a : Act} {Q : Exit → Act → World → Prop} (hgd : o.guard = none) (s x : Operand)
    (ho : o.op = .call { callee := .builtin .append, args := #[s, x], argTypes := #[22, 22] }) (v : Value) (l : List UInt8) (hs : a.eval s = v) (hO : OwnB w0 w v l)
    (u : Value) (m : List UInt8) (hx : a.eval x = u) (hP : Piece w u m) (hlen : l.length + m.length ≤ 4194304)
    (h : ∀ v' w', OwnB w0 w' v' (l ++ m) → wpList Tryd.prog ops Q rest (a.put o.dst v') w') : wpList Tryd.prog ops Q (o :: rest) a w := by
  have go : ∀ (ad : Addr) (c : Nat), u = .slice (some ad) m.length c → (∀ j y, (V m)[j]? = some y → w.cell? (ad.add j) = some y) → wpList Tryd.prog ops Q (o :: rest) a w := fun ad c hu hc => by
    refine wpList_append_own _ hgd s x 22 ho w0.heap.size 5 Tryd.t5 (.int .u8 0) 1 1 Tryd.underlying22 info5' rfl rfl rfl rfl (by decide) v l.length (V l) hs hO.own ad m.length c (V m) (hx.trans hu) (by rw [V_length, Nat.mul_one]) hc ?_ ?_ ?_ hO.bel.size ?_
    · intro y hy
      obtain ⟨z, _, rfl⟩ := List.mem_map.1 hy
      rfl
    · unfold maxLen; omega
    · omega
    · intro v' w' h2 h3 h4
      exact h v' w' (hO.grow h2 h3 h4)
  by_cases hm : m = []
  · subst hm
    obtain ⟨p, c, hu, _⟩ := hP.form
    cases p with
    | some ad => exact go ad c hu (fun j y hy => by simp [V] at hy)
    | none =>
      obtain ⟨g, cap, hv, hcap, _⟩ := hO.row
      refine wpList_plain hgd fun K hK => ?_
      have hr := run_append_nothing (P := Tryd.prog) w 22 22 o.type 5 Tryd.t5 Tryd.underlying22 info5' (some ⟨g, 0, none⟩) l.length cap hcap (.slice none 0 c) (Src.ofNil w Tryd.underlying22 c)
      have hx' : a.eval x = .slice none 0 c := hx.trans hu
      have hs' : a.eval s = .slice (some ⟨g, 0, none⟩) l.length cap := hs.trans hv
      unfold Oper.wp
      simp [execOp, ho, resolve, invoke, builtin, hs', hx', hr, Result.andThen]
      have e : OwnB w0 w (.slice (some ⟨g, 0, none⟩) l.length cap) (l ++ []) := by rw [List.append_nil, ← hv]; exact hO
      exact hK _ _ (h _ w e)
  · obtain ⟨b, off, c, hu, hr⟩ := hP.row hm
    refine go ⟨b, off, none⟩ c hu (fun j y hy => ?_)
    rw [Addr.add_lit]
    have hj : j < m.length := by
      have := (List.getElem?_eq_some_iff.1 hy).1
      rwa [V_length] at this
    rw [hr j hj, ← hy]
    simp [V, List.getD, hj]
end Go.Proofs.Qxb6602448aDoor

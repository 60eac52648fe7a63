/-
  Seat b6602448aD: bytes.TrimLeft, TrimRight, Cut and TrimPrefix, in the words of this seat (Piece).
-/
import Derived.Test.Qxb6602448aDoorApp
import Derived.Test.Qxb6602448aDoorAny2
import Derived.Lib.SlFresh
namespace Go.Proofs.Qxb6602448aDoor
open Go.RowKit

theorem Piece.bytesIn {w : World} {p : Option Addr} {c : Nat} {l : List UInt8} (h : Piece w (.slice p l.length c) l) : Lib.BytesIn w p l.length (Lib.numsL l) := fun hn => by
  obtain ⟨b, off, c', e, hr⟩ := h.row (fun e => by rw [e] at hn; simp at hn)
  simp only [Value.slice.injEq] at e
  obtain ⟨rfl, _, _⟩ := e
  refine ⟨b, off, rfl, fun i hi => ?_⟩
  rw [hr i hi]
  simp [val, Lib.numsL, List.getD, hi]

theorem Piece.fromV {w : World} {p : Option Addr} {c : Nat} {l : List UInt8} (h : Piece w (.slice p l.length c) l) (hc : l.length ≤ c) (hm : c ≤ 9223372036854775807) (j : Nat) : Piece w (Lib.fromV p l.length c j) (l.drop j) := by
  unfold Lib.fromV
  rw [← List.length_drop]
  refine ⟨⟨_, _, rfl, by rw [List.length_drop]; omega, by omega⟩, fun hne => ?_⟩
  have hj : j < l.length := by
    by_cases e : j < l.length
    · exact e
    · exact absurd (List.drop_eq_nil_of_le (by omega)) hne
  obtain ⟨b, off, c', e, hr⟩ := h.row (fun e => by rw [e] at hj; simp at hj)
  simp only [Value.slice.injEq] at e
  obtain ⟨rfl, _, _⟩ := e
  refine ⟨b, off + j, c - j, ?_, hr.drop j⟩
  rw [if_neg (by omega), Option.map_some, Addr.add_lit]

theorem drop_of_suffix {s l : List UInt8} (h : s <:+ l) : l.drop (l.length - s.length) = s := by
  obtain ⟨t, rfl⟩ := h
  rw [List.length_append, Nat.add_sub_cancel, List.drop_left]
theorem take_of_prefix {s l : List UInt8} (h : s <+: l) : l.take s.length = s := by
  obtain ⟨t, rfl⟩ := h
  exact List.take_left

theorem trimLeft (v : Value) (l : List UInt8) (cs : ByteArray) (w : World) (h : Piece w v l) (hcs : cs.size < 4294967281) (ha : ∀ (j : Nat) b, cs.data.toList[j]? = some b → b.toNat < 128) :
    Calls Tryd.prog 23 #[v, .string cs] w fun e w' => (∃ v', e = .returned v' ∧ Piece w' v' (Lib.trimLeftS l cs.data.toList)) ∧ Below w.heap.size w w' := by
  obtain ⟨p, c, rfl, hc, hm⟩ := h.form
  refine (Tryd.bytes_TrimLeft p l.length c (Lib.numsL l) cs w (Lib.numsL_length l) hc hm h.bytesIn (Lib.numsL_range l) hcs ha).mono ?_
  rintro e w' ⟨rfl, hb⟩
  rw [Lib.bytesOf_numsL]
  have hsuf : Lib.trimLeftS l cs.data.toList <:+ l := List.dropWhile_suffix _
  have hle := hsuf.length_le
  have hd := drop_of_suffix hsuf
  refine ⟨⟨_, rfl, ?_⟩, hb⟩
  unfold Lib.leftV
  by_cases h0 : l.length - (Lib.trimLeftS l cs.data.toList).length = l.length
  · rw [if_pos h0]
    rw [h0, List.drop_length] at hd
    rw [← hd]
    exact Piece.nil _ 0 (by omega) none
  · rw [if_neg h0]
    have := (h.below hb).fromV hc hm (l.length - (Lib.trimLeftS l cs.data.toList).length)
    rw [hd] at this
    exact this

theorem trimRight (v : Value) (l : List UInt8) (cs : ByteArray) (w : World) (h : Piece w v l) (hcs : cs.size < 4294967281) (ha : ∀ (j : Nat) b, cs.data.toList[j]? = some b → b.toNat < 128) :
    Calls Tryd.prog 25 #[v, .string cs] w fun e w' => (∃ v', e = .returned v' ∧ Piece w' v' (Lib.trimRightS l cs.data.toList)) ∧ Below w.heap.size w w' := by
  obtain ⟨p, c, rfl, hc, hm⟩ := h.form
  refine (Tryd.bytes_TrimRight p l.length c (Lib.numsL l) cs w (Lib.numsL_length l) hc hm h.bytesIn (Lib.numsL_range l) hcs ha).mono ?_
  rintro e w' ⟨rfl, hb⟩
  rw [Lib.bytesOf_numsL]
  have hpre : Lib.trimRightS l cs.data.toList <+: l := by
    unfold Lib.trimRightS
    rw [← List.reverse_suffix, List.reverse_reverse]
    exact List.dropWhile_suffix _
  have hle := hpre.length_le
  have ht := take_of_prefix hpre
  refine ⟨⟨_, rfl, ⟨⟨p, c, rfl, by omega, hm⟩, fun hne => ?_⟩⟩, hb⟩
  obtain ⟨b, off, c', e, hr⟩ := (h.below hb).row (fun e => hne (by rw [e]; rfl))
  simp only [Value.slice.injEq] at e
  obtain ⟨rfl, _, _⟩ := e
  refine ⟨b, off, c, rfl, ?_⟩
  have := hr.take (Lib.trimRightS l cs.data.toList).length
  rw [ht] at this
  exact this

theorem Piece.takeV {w : World} {p : Option Addr} {c : Nat} {l : List UInt8} (h : Piece w (.slice p l.length c) l) (hc : l.length ≤ c) (hm : c ≤ 9223372036854775807) (j : Nat) (hj : j ≤ l.length) : Piece w (.slice p j c) (l.take j) := by
  have hl : (l.take j).length = j := by rw [List.length_take]; omega
  refine ⟨⟨p, c, by rw [hl], by omega, hm⟩, fun hne => ?_⟩
  obtain ⟨b, off, c', e, hr⟩ := h.row (fun e => hne (by rw [e, List.take_nil]))
  simp only [Value.slice.injEq] at e
  obtain ⟨rfl, _, _⟩ := e
  exact ⟨b, off, c, by rw [hl], hr.take j⟩

/-- bytes.Cut at one byte. -/
theorem cut (v u : Value) (l : List UInt8) (x : UInt8) (w : World) (h : Piece w v l) (hl : l.length < 4294967281) (hu : Piece w u [x]) (hs : ∃ b off c, v = .slice (some ⟨b, off, none⟩) l.length c) (hv : Vars w) :
    Calls Tryd.prog 22 #[v, u] w fun e w' => ∃ a b f, e = .returned (.tuple #[a, b, .bool f]) ∧ Below w.heap.size w w' ∧
      (0 ≤ Lib.index l [x] → Piece w' a (l.take (Lib.index l [x]).toNat) ∧ Piece w' b (l.drop ((Lib.index l [x]).toNat + 1))) ∧
      (Lib.index l [x] < 0 → Piece w' a l ∧ Piece w' b []) := by
  obtain ⟨b0, off0, c, rfl⟩ := hs
  obtain ⟨_, _, e, hc, hm⟩ := h.form
  simp only [Value.slice.injEq] at e
  obtain ⟨rfl, _, rfl⟩ := e
  obtain ⟨p2, c2, rfl, hc2, hm2⟩ := hu.form
  obtain ⟨m, hml⟩ := hv.maxLen
  refine (Tryd.bytes_Cut _ p2 l.length c 1 c2 (Lib.numsL l) (Lib.numsL [x]) m w (Lib.numsL_length l) (Lib.numsL_length [x]) (Lib.numsL_range l) (Lib.numsL_range [x]) h.bytesIn hu.bytesIn (fun e => by cases e) hc hl (by omega) hml).mono ?_
  rintro e w' ⟨rfl, q, rfl⟩
  rw [Lib.bytesOf_numsL, Lib.bytesOf_numsL]
  have hb : Below w.heap.size w (w.drewN q) := ⟨rfl, rfl, rfl, Nat.le_refl _, fun _ _ => rfl⟩
  have hlt := Lib.index_le l [x]
  unfold Lib.cutV
  by_cases hi : 0 ≤ Lib.index l [x]
  · rw [if_pos hi]
    refine ⟨_, _, _, rfl, hb, fun _ => ⟨(h.below hb).takeV hc hm _ ?_, (h.below hb).fromV hc hm _⟩, fun h0 => by omega⟩
    omega
  · rw [if_neg hi]
    exact ⟨_, _, _, rfl, hb, fun h0 => absurd h0 hi, fun _ => ⟨h.below hb, Piece.nil _ 0 (by omega) none⟩⟩
end Go.Proofs.Qxb6602448aDoor

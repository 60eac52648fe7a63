/-
  Seat b6602448aD: plain facts on the decoding of a rune whose first byte is no ASCII, for bytes.IndexAny. No program in this text.
-/
import Derived.Lib.IndexAny
import Derived.Lib.IndexLaws
import Derived.Lib.IndexBytes
import Derived.Lib.DecodeN
import Derived.Shelf.Unicode.DecodeSlow
namespace Go.Proofs.Qxb6602448aDoor

theorem dec_facts (n b0 b1 b2 b3 : Nat) (hn : 1 ≤ n) (h0 : 128 ≤ b0) : 128 ≤ (Lib.decodeN n b0 b1 b2 b3).1 ∧ 1 ≤ (Lib.decodeN n b0 b1 b2 b3).2 ∧ (Lib.decodeN n b0 b1 b2 b3).2 ≤ 4 ∧ (Lib.decodeN n b0 b1 b2 b3).2 ≤ n ∧
    (2 ≤ (Lib.decodeN n b0 b1 b2 b3).2 → 128 ≤ b1) ∧ (3 ≤ (Lib.decodeN n b0 b1 b2 b3).2 → 128 ≤ b2) ∧ (4 ≤ (Lib.decodeN n b0 b1 b2 b3).2 → 128 ≤ b3) ∧
    ((Lib.decodeN n b0 b1 b2 b3).1 = 65533 ∨ ((Lib.decodeN n b0 b1 b2 b3).2 = 2 ∧ (Lib.decodeN n b0 b1 b2 b3).1 < 2048) ∨
      ((Lib.decodeN n b0 b1 b2 b3).2 = 3 ∧ 2048 ≤ (Lib.decodeN n b0 b1 b2 b3).1 ∧ (Lib.decodeN n b0 b1 b2 b3).1 < 65536 ∧ ((Lib.decodeN n b0 b1 b2 b3).1 < 55296 ∨ 57344 ≤ (Lib.decodeN n b0 b1 b2 b3).1)) ∨
      ((Lib.decodeN n b0 b1 b2 b3).2 = 4 ∧ 65536 ≤ (Lib.decodeN n b0 b1 b2 b3).1 ∧ (Lib.decodeN n b0 b1 b2 b3).1 ≤ 1114111)) := by
  have e : ¬ b0 < 128 := by omega
  unfold Lib.decodeN
  rw [if_neg e]
  repeat' split
  all_goals (dsimp only; refine ⟨?_, ?_, ?_, ?_, ?_, ?_, ?_, ?_⟩)
  all_goals first | omega | (left; omega) | (right; left; omega) | (right; right; left; omega) | (right; right; right; omega) | (right; right; left; exact ⟨rfl, by omega, by omega, by omega⟩) | (right; right; right; exact ⟨rfl, by omega, by omega⟩) | (right; left; exact ⟨rfl, by omega⟩) | (left; rfl)

theorem encode_size2 (r : Nat) (h0 : 128 ≤ r) (h1 : r < 2048) : (Utf8.encode r).size = 2 := by
  have hv : Utf8.valid (r : Int) = true := by simp [Utf8.valid]; omega
  unfold Utf8.encode
  simp only [hv, if_true, Int.toNat_natCast]
  rw [if_neg (by omega), if_pos (by omega)]; rfl
theorem encode_size3 (r : Nat) (h0 : 2048 ≤ r) (h1 : r < 65536) (h2 : r < 55296 ∨ 57344 ≤ r) : (Utf8.encode r).size = 3 := by
  have hv : Utf8.valid (r : Int) = true := by simp [Utf8.valid]; omega
  unfold Utf8.encode
  simp only [hv, if_true, Int.toNat_natCast]
  rw [if_neg (by omega), if_neg (by omega), if_pos (by omega)]; rfl
theorem encode_size4 (r : Nat) (h0 : 65536 ≤ r) (h1 : r ≤ 1114111) : (Utf8.encode r).size = 4 := by
  have hv : Utf8.valid (r : Int) = true := by simp [Utf8.valid]; omega
  unfold Utf8.encode
  simp only [hv, if_true, Int.toNat_natCast]
  rw [if_neg (by omega), if_neg (by omega), if_neg (by omega)]; rfl

/-- The first byte of what encodes a rune beyond ASCII is no ASCII. -/
theorem encode_head (r : Nat) (h0 : 128 ≤ r) : ∃ x l, (Utf8.encode r).data.toList = x :: l ∧ 128 ≤ x.toNat := by
  unfold Utf8.encode
  by_cases hv : Utf8.valid (r : Int) = true
  · have hr : r ≤ 1114111 := by simp [Utf8.valid] at hv; omega
    simp only [hv, if_true, Int.toNat_natCast]
    rw [if_neg (by omega)]
    split
    · exact ⟨_, _, rfl, by simp; omega⟩
    · split
      · exact ⟨_, _, rfl, by simp; omega⟩
      · exact ⟨_, _, rfl, by simp; omega⟩
  · rw [if_neg hv]
    exact ⟨239, [191, 189], by decide, by decide⟩

/-- No text of ASCII holds it. -/
theorem index_enc (chars : ByteArray) (hascii : ∀ (j : Nat) b, chars.data.toList[j]? = some b → b.toNat < 128) (r : Nat) (h0 : 128 ≤ r) : Lib.index chars.data.toList (Utf8.encode r).data.toList = -1 := by
  obtain ⟨x, l, hx, hge⟩ := encode_head r h0
  refine Lib.index_none fun j _ => ?_
  cases ho : Lib.occAt chars.data.toList (Utf8.encode r).data.toList j with
  | false => rfl
  | true =>
    have := hascii j x (Lib.occAt_head hx ho)
    omega

theorem enc_ne (chars : ByteArray) (hascii : ∀ (j : Nat) b, chars.data.toList[j]? = some b → b.toNat < 128) (r : Nat) (h0 : 128 ≤ r) : (chars.toList == (Utf8.encode r).toList) = false := by
  obtain ⟨x, l, hx, hge⟩ := encode_head r h0
  rw [beq_eq_false_iff_ne, Lib.toList_data, Lib.toList_data, hx]
  intro e
  have := hascii 0 x (by rw [e]; rfl)
  omega

/-- What Go's decoder hands back of a text whose first byte is no ASCII. -/
structure Dec (t : ByteArray) (r wd : Nat) : Prop where
  r128 : 128 ≤ r
  w1 : 1 ≤ wd
  w4 : wd ≤ 4
  room : wd ≤ t.size
  high : ∀ j, j < wd → 128 ≤ (t.get! j).toNat
  enc : r = 65533 ∨ (r ≠ 65533 ∧ 2 ≤ wd ∧ (Utf8.encode r).size = wd)

theorem dec_of (t : ByteArray) (h1 : 1 ≤ t.size) (h0 : 128 ≤ (t.get! 0).toNat) : Dec t (Lib.decodeGo t).1 (Lib.decodeGo t).2 := by
  have e : Lib.decodeGo t = Lib.decodeN t.size (t.get! 0).toNat (t.get! 1).toNat (t.get! 2).toNat (t.get! 3).toNat := by
    unfold Lib.decodeGo
    rw [if_neg (by omega), Lib.decode_at]
    rfl
  rw [e]
  obtain ⟨f1, f2, f3, f4, f5, f6, f7, f8⟩ := dec_facts t.size (t.get! 0).toNat (t.get! 1).toNat (t.get! 2).toNat (t.get! 3).toNat h1 h0
  refine ⟨f1, f2, f3, f4, ?_, ?_⟩
  · intro j hj
    match j, hj with
    | 0, _ => exact h0
    | 1, hj => exact f5 (by omega)
    | 2, hj => exact f6 (by omega)
    | 3, hj => exact f7 (by omega)
    | j + 4, hj => omega
  · by_cases h : (Lib.decodeN t.size (t.get! 0).toNat (t.get! 1).toNat (t.get! 2).toNat (t.get! 3).toNat).1 = 65533
    · exact .inl h
    · right
      rcases f8 with f | ⟨g1, g2⟩ | ⟨g1, g2, g3, g4⟩ | ⟨g1, g2, g3⟩
      · exact absurd f h
      · exact ⟨h, by omega, by rw [encode_size2 _ f1 g2, g1]⟩
      · exact ⟨h, by omega, by rw [encode_size3 _ g2 g3 g4, g1]⟩
      · exact ⟨h, by omega, by rw [encode_size4 _ g2 g3, g1]⟩

theorem get!_mk (l : List UInt8) (j : Nat) : (ByteArray.mk l.toArray).get! j = l.getD j 0 := by
  show (ByteArray.mk l.toArray).data[j]! = _
  simp [List.getD, Array.getElem!_eq_getD]
  rfl

/-- No byte of the cutset among the bytes that the decoder takes at once. -/
theorem noAny_skip {bs cs : List UInt8} {k wd : Nat} (h : Lib.NoAny bs cs k) (hascii : ∀ (j : Nat) b, cs[j]? = some b → b.toNat < 128) (hh : ∀ j, j < wd → 128 ≤ (bs.getD (k + j) 0).toNat) : Lib.NoAny bs cs (k + wd) := by
  intro j b hj hb
  by_cases hjk : j < k
  · exact h j b hjk hb
  · have h1 := hh (j - k) (by omega)
    rw [show k + (j - k) = j by omega, List.getD, hb] at h1
    cases hc : cs.contains b with
    | false => rfl
    | true =>
      have hmem : b ∈ cs := by simpa using hc
      obtain ⟨i, hi, hget⟩ := List.getElem_of_mem hmem
      have := hascii i b (by rw [List.getElem?_eq_getElem hi, hget])
      simp at h1
      omega

end Go.Proofs.Qxb6602448aDoor

/-
  Seat b6602240aD: the plain law: cutting a text at its newlines, byte by byte, is strings.Split's cut. No Go in this text but the library's plain functions on lists of bytes.
-/
import Derived.Lib.SplitLaws
namespace Go.Proofs.Qxb6602240aDoor
open Go.Lib

/-- The text cut at each newline; 'pre': what has been read of the line at hand. -/
def lines (pre : List UInt8) : List UInt8 → List (List UInt8)
  | [] => [pre]
  | c :: cs => if c = 10 then pre :: lines [] cs else lines (pre ++ [c]) cs

def consPre (p : List UInt8) : List (List UInt8) → List (List UInt8)
  | [] => []
  | h :: t => (p ++ h) :: t

theorem lines_pre (p : List UInt8) : ∀ (l q : List UInt8), lines (p ++ q) l = consPre p (lines q l)
  | [], q => rfl
  | c :: cs, q => by
    unfold lines
    by_cases h : c = 10
    · rw [if_pos h, if_pos h]; rfl
    · rw [if_neg h, if_neg h, List.append_assoc, lines_pre p cs (q ++ [c])]

theorem splitK_cons (b : UInt8) (h : b ≠ 10) (k : Nat) (l : List UInt8) : splitK [10] 0 k (b :: l) = consPre [b] (splitK [10] 0 k l) := by
  cases k with
  | zero => rfl
  | succ k =>
    have hp : ([10] : List UInt8).isPrefixOf (b :: l) = false := by simp [List.isPrefixOf, Ne.symm h]
    have hix : index (b :: l) [10] = if index l [10] == -1 then -1 else index l [10] + 1 := by rw [index, hp]; simp
    by_cases hm : index l [10] = -1
    · have h1 : index (b :: l) [10] = -1 := by rw [hix, if_pos (beq_iff_eq.2 hm)]
      unfold splitK
      rw [if_pos (beq_iff_eq.2 h1), if_pos (beq_iff_eq.2 hm)]
      rfl
    · have hge := index_ge l [10]
      obtain ⟨j, hj⟩ : ∃ j : Nat, index l [10] = j := ⟨(index l [10]).toNat, by omega⟩
      have h1 : index (b :: l) [10] = ((j + 1 : Nat) : Int) := by rw [hix, if_neg (fun e => hm (beq_iff_eq.1 e)), hj]; omega
      have n1 : ¬ (index (b :: l) [10] == -1) = true := fun e => by have := beq_iff_eq.1 e; omega
      have n2 : ¬ (index l [10] == -1) = true := fun e => by have := beq_iff_eq.1 e; omega
      unfold splitK
      rw [if_neg n1, if_neg n2, h1, hj, Int.toNat_natCast, Int.toNat_natCast]
      simp [consPre]

theorem split_lines : ∀ l : List UInt8, splitK [10] 0 (count l [10]) l = lines [] l
  | [] => by rw [count_miss (by simp [index])]; rfl
  | b :: l => by
    by_cases h : b = 10
    · subst h
      have hix : index (10 :: l) [10] = ((0 : Nat) : Int) := by rw [index]; simp [List.isPrefixOf]
      rw [count_cons_eq, Nat.add_comm]
      unfold splitK lines
      rw [if_neg (fun e => by have := beq_iff_eq.1 e; omega), if_pos rfl, hix, ← split_lines l]
      simp
    · rw [count_cons_ne b 10 l h, splitK_cons b h, split_lines l]
      conv => rhs; unfold lines
      rw [if_neg h]
      exact (lines_pre [b] l []).symm

/-- A line that is kept: not empty, and its first byte is no '#'. -/
def keep (l : List UInt8) : Bool := !l.isEmpty && !(hasPrefix l [35])
def kept (l : List UInt8) : List (List UInt8) := (lines [] l).filter keep
/-- The kept lines as the strings that lie in memory. -/
def S (ls : List (List UInt8)) : List Value := ls.map fun l => Value.string ⟨l.toArray⟩

def nl : ByteArray := ⟨#[10]⟩
def pieces (s : ByteArray) : List ByteArray := splitB nl 0 (countB s nl) s

theorem pieces_data (s : ByteArray) : (pieces s).map (·.data.toList) = lines [] s.data.toList := by
  unfold pieces
  rw [splitB_data]
  exact split_lines _

theorem pieces_length (s : ByteArray) : (pieces s).length = countB s nl + 1 := splitB_all nl (by decide) 0 _ s rfl

theorem string_mk (s : ByteArray) : Value.string ⟨s.data.toList.toArray⟩ = Value.string s := by rw [mk_data]

/-- What parse has gathered behind k pieces. -/
def keptTo (s : ByteArray) (k : Nat) : List (List UInt8) := (((pieces s).take k).map (·.data.toList)).filter keep

theorem keptTo_zero (s : ByteArray) : keptTo s 0 = [] := rfl
theorem keptTo_all (s : ByteArray) : keptTo s (pieces s).length = kept s.data.toList := by
  unfold keptTo kept
  rw [List.take_length, pieces_data]
theorem keptTo_le (s : ByteArray) (k : Nat) : (keptTo s k).length ≤ k := by
  unfold keptTo
  refine Nat.le_trans (List.length_filter_le _ _) ?_
  rw [List.length_map]
  exact List.length_take_le _ _
theorem keptTo_succ (s : ByteArray) (k : Nat) (h : k < (pieces s).length) : keptTo s (k + 1) = if keep ((pieces s)[k]).data.toList then keptTo s k ++ [((pieces s)[k]).data.toList] else keptTo s k := by
  unfold keptTo
  rw [List.take_succ_eq_append_getElem h, List.map_append, List.filter_append]
  cases hk : keep ((pieces s)[k]).data.toList <;> simp [hk]

theorem S_append (a b : List (List UInt8)) : S (a ++ b) = S a ++ S b := List.map_append
theorem S_length (a : List (List UInt8)) : (S a).length = a.length := List.length_map _
theorem S_one (x : ByteArray) : S [x.data.toList] = [Value.string x] := by
  show [Value.string ⟨x.data.toList.toArray⟩] = _
  rw [string_mk]

/-- What modelParse has gathered behind i bytes, the line at hand beginning at st. -/
structure Mid (l : List UInt8) (st i : Nat) (D : List (List UInt8)) : Prop where
  le : st ≤ i
  len : D.length ≤ i
  all : D.filter keep ++ (lines ((l.take i).drop st) (l.drop i)).filter keep = kept l

theorem Mid.zero (l : List UInt8) : Mid l 0 0 [] := ⟨Nat.le_refl _, Nat.le_refl _, by simp [kept]⟩
theorem Mid.stop {l : List UInt8} {st i : Nat} {D : List (List UInt8)} (h : Mid l st i D) (hi : i < l.length) (hc : l[i] = 10) : Mid l (i + 1) (i + 1) (D ++ [(l.take i).drop st]) := by
  refine ⟨Nat.le_refl _, by have := h.len; simp; omega, ?_⟩
  rw [← h.all, List.drop_eq_getElem_cons hi, List.filter_append, List.append_assoc]
  conv => rhs; rw [lines, if_pos hc]
  rw [List.drop_eq_nil_of_le (as := l.take (i + 1)) (by simp; omega)]
  rw [← List.filter_append]; rfl
theorem Mid.go {l : List UInt8} {st i : Nat} {D : List (List UInt8)} (h : Mid l st i D) (hi : i < l.length) (hc : l[i] ≠ 10) : Mid l st (i + 1) D := by
  refine ⟨by have := h.le; omega, by have := h.len; omega, ?_⟩
  rw [← h.all, List.drop_eq_getElem_cons hi]
  conv => rhs; rw [lines, if_neg hc]
  rw [List.take_succ_eq_append_getElem hi, List.drop_append_of_le_length (by have := h.le; simp; omega)]
theorem Mid.last {l : List UInt8} {st i : Nat} {D : List (List UInt8)} (h : Mid l st i D) (hi : i = l.length) : (D ++ [(l.take i).drop st]).filter keep = kept l := by
  rw [← h.all, List.drop_eq_nil_of_le (by omega : l.length ≤ i), List.filter_append]
  rfl

end Go.Proofs.Qxb6602240aDoor

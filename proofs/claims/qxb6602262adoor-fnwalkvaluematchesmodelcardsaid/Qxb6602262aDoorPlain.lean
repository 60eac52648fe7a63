/-
  Seat b6602262aD: the plain law: where a JSON value ends and how deep it nests, read byte by byte. No Go in this text.
-/
namespace Go.Proofs.Qxb6602262aDoor

/-- Inside a string: 'st': the byte at hand is escaped. Where the string ends. -/
def scan : List UInt8 → Nat → Bool → Nat
  | [], pos, _ => pos
  | _ :: cs, pos, true => scan cs (pos + 1) false
  | c :: cs, pos, false => if c = 92 then scan cs (pos + 1) true else if c = 34 then pos + 1 else scan cs (pos + 1) false

/-- Inside a container: 'o' open brackets, 'd' the most that were open; 'st': inside a string, and whether the byte at hand is escaped. -/
def cont : List UInt8 → Nat → Nat → Nat → Option Bool → Nat × Nat
  | [], pos, _, d, _ => (pos, d)
  | _ :: cs, pos, o, d, some true => cont cs (pos + 1) o d (some false)
  | c :: cs, pos, o, d, some false => if c = 92 then cont cs (pos + 1) o d (some true) else if c = 34 then cont cs (pos + 1) o d none else cont cs (pos + 1) o d (some false)
  | c :: cs, pos, o, d, none =>
    if c = 34 then cont cs (pos + 1) o d (some false)
    else if c = 123 ∨ c = 91 then cont cs (pos + 1) (o + 1) (max d (o + 1)) none
    else if c = 125 ∨ c = 93 then (if o = 1 then (pos + 1, d) else cont cs (pos + 1) (o - 1) d none)
    else cont cs (pos + 1) o d none

def isStop (c : UInt8) : Bool := c == 44 || c == 125 || c == 93 || c == 32 || c == 9 || c == 10 || c == 13

/-- A bare number, true, false or null: where it ends. -/
def bare : List UInt8 → Nat → Nat
  | [], pos => pos
  | c :: cs, pos => if isStop c then pos else bare cs (pos + 1)

/-- The end of the string that opens at i. -/
def strEnd (bs : List UInt8) (i : Nat) : Nat := scan (bs.drop (i + 1)) (i + 1) false

/-- The whole walk. -/
def walk (bs : List UInt8) (i : Nat) : Nat × Nat :=
  match bs.drop i with
  | [] => (bs.length, 0)
  | c :: _ => if c = 34 then (strEnd bs i, 0) else if c = 123 ∨ c = 91 then cont (bs.drop i) i 0 0 none else (bare (bs.drop i) i, 0)

theorem scan_le : ∀ (l : List UInt8) (pos : Nat) (st : Bool), pos ≤ scan l pos st ∧ scan l pos st ≤ pos + l.length
  | [], pos, _ => by simp [scan]
  | _ :: cs, pos, true => by have := scan_le cs (pos + 1) false; simp only [scan, List.length_cons]; omega
  | c :: cs, pos, false => by
    have h1 := scan_le cs (pos + 1) false
    have h2 := scan_le cs (pos + 1) true
    simp only [scan, List.length_cons]
    split
    · omega
    · split <;> omega

theorem strEnd_bd (bs : List UInt8) (i : Nat) (h : i < bs.length) : i + 1 ≤ strEnd bs i ∧ strEnd bs i ≤ bs.length := by
  have := scan_le (bs.drop (i + 1)) (i + 1) false
  rw [List.length_drop] at this
  unfold strEnd
  omega

theorem scan_take : ∀ (l : List UInt8) (pos : Nat) (st : Bool) (k : Nat), scan l pos st ≤ pos + k → scan (l.take k) pos st = scan l pos st
  | [], pos, _, k, _ => by simp [scan]
  | c :: cs, pos, st, 0, h => by
    exfalso
    cases st with
    | true => have := scan_le cs (pos + 1) false; simp only [scan] at h; omega
    | false =>
      have h1 := scan_le cs (pos + 1) false
      have h2 := scan_le cs (pos + 1) true
      simp only [scan] at h
      split at h
      · omega
      · split at h <;> omega
  | _ :: cs, pos, true, k + 1, h => by
    simp only [scan, List.take_succ_cons] at h ⊢
    exact scan_take cs (pos + 1) false k (by omega)
  | c :: cs, pos, false, k + 1, h => by
    simp only [scan, List.take_succ_cons] at h ⊢
    split
    · rename_i e; rw [if_pos e] at h; exact scan_take cs (pos + 1) true k (by omega)
    · rename_i e
      rw [if_neg e] at h
      split
      · rfl
      · rename_i e2; rw [if_neg e2] at h; exact scan_take cs (pos + 1) false k (by omega)

/-- A string inside a container. -/
theorem cont_str (o d : Nat) : ∀ (l : List UInt8) (pos : Nat) (st : Bool), cont l pos o d (some st) = cont (l.drop (scan l pos st - pos)) (scan l pos st) o d none
  | [], pos, _ => by simp [scan, cont]
  | _ :: cs, pos, true => by
    have h1 := scan_le cs (pos + 1) false
    simp only [cont, scan]
    rw [cont_str o d cs (pos + 1) false, show scan cs (pos + 1) false - pos = (scan cs (pos + 1) false - (pos + 1)) + 1 by omega, List.drop_succ_cons]
  | c :: cs, pos, false => by
    have h1 := scan_le cs (pos + 1) false
    have h2 := scan_le cs (pos + 1) true
    simp only [cont, scan]
    split
    · rw [cont_str o d cs (pos + 1) true, show scan cs (pos + 1) true - pos = (scan cs (pos + 1) true - (pos + 1)) + 1 by omega, List.drop_succ_cons]
    · split
      · simp
      · rw [cont_str o d cs (pos + 1) false, show scan cs (pos + 1) false - pos = (scan cs (pos + 1) false - (pos + 1)) + 1 by omega, List.drop_succ_cons]

theorem cont_bd : ∀ (l : List UInt8) (pos o d : Nat) (st : Option Bool), pos ≤ (cont l pos o d st).1 ∧ (cont l pos o d st).1 ≤ pos + l.length ∧ d ≤ (cont l pos o d st).2 ∧ (cont l pos o d st).2 ≤ max d (o + ((cont l pos o d st).1 - pos))
  | [], pos, o, d, _ => by simp [cont]; omega
  | _ :: cs, pos, o, d, some true => by have := cont_bd cs (pos + 1) o d (some false); simp only [cont, List.length_cons]; omega
  | c :: cs, pos, o, d, some false => by
    have h1 := cont_bd cs (pos + 1) o d (some false)
    have h2 := cont_bd cs (pos + 1) o d (some true)
    have h3 := cont_bd cs (pos + 1) o d none
    simp only [cont, List.length_cons]
    split
    · omega
    · split <;> omega
  | c :: cs, pos, o, d, none => by
    have h1 := cont_bd cs (pos + 1) o d (some false)
    have h2 := cont_bd cs (pos + 1) (o + 1) (max d (o + 1)) none
    have h3 := cont_bd cs (pos + 1) (o - 1) d none
    have h4 := cont_bd cs (pos + 1) o d none
    simp only [cont, List.length_cons]
    split
    · omega
    · split
      · omega
      · split
        · split
          · simp; omega
          · omega
        · omega

theorem cont_take : ∀ (l : List UInt8) (pos o d : Nat) (st : Option Bool) (k : Nat), (cont l pos o d st).1 = pos + k → cont (l.take k) pos o d st = cont l pos o d st
  | [], pos, o, d, _, k, _ => by simp [cont]
  | c :: cs, pos, o, d, st, 0, h => by
    exfalso
    cases st with
    | some b =>
      cases b with
      | true => have := cont_bd cs (pos + 1) o d (some false); simp only [cont] at h; omega
      | false =>
        have h1 := cont_bd cs (pos + 1) o d (some false)
        have h2 := cont_bd cs (pos + 1) o d (some true)
        have h3 := cont_bd cs (pos + 1) o d none
        simp only [cont] at h
        split at h
        · omega
        · split at h <;> omega
    | none =>
      have h1 := cont_bd cs (pos + 1) o d (some false)
      have h2 := cont_bd cs (pos + 1) (o + 1) (max d (o + 1)) none
      have h3 := cont_bd cs (pos + 1) (o - 1) d none
      have h4 := cont_bd cs (pos + 1) o d none
      simp only [cont] at h
      split at h
      · omega
      · split at h
        · omega
        · split at h
          · split at h
            · simp at h
            · omega
          · omega
  | _ :: cs, pos, o, d, some true, k + 1, h => by
    simp only [cont, List.take_succ_cons] at h ⊢
    exact cont_take cs (pos + 1) o d (some false) k (by omega)
  | c :: cs, pos, o, d, some false, k + 1, h => by
    simp only [cont, List.take_succ_cons] at h ⊢
    split
    · rename_i e; rw [if_pos e] at h; exact cont_take cs (pos + 1) o d (some true) k (by omega)
    · rename_i e
      rw [if_neg e] at h
      split
      · rename_i e2; rw [if_pos e2] at h; exact cont_take cs (pos + 1) o d none k (by omega)
      · rename_i e2; rw [if_neg e2] at h; exact cont_take cs (pos + 1) o d (some false) k (by omega)
  | c :: cs, pos, o, d, none, k + 1, h => by
    simp only [cont, List.take_succ_cons] at h ⊢
    split
    · rename_i e; rw [if_pos e] at h; exact cont_take cs (pos + 1) o d (some false) k (by omega)
    · rename_i e
      rw [if_neg e] at h
      split
      · rename_i e2; rw [if_pos e2] at h; exact cont_take cs (pos + 1) (o + 1) (max d (o + 1)) none k (by omega)
      · rename_i e2
        rw [if_neg e2] at h
        split
        · rename_i e3
          rw [if_pos e3] at h
          split
          · rfl
          · rename_i e4; rw [if_neg e4] at h; exact cont_take cs (pos + 1) (o - 1) d none k (by omega)
        · rename_i e3; rw [if_neg e3] at h; exact cont_take cs (pos + 1) o d none k (by omega)

theorem bare_bd : ∀ (l : List UInt8) (pos : Nat), pos ≤ bare l pos ∧ bare l pos ≤ pos + l.length
  | [], pos => by simp [bare]
  | c :: cs, pos => by
    have := bare_bd cs (pos + 1)
    simp only [bare, List.length_cons]
    split <;> omega

theorem bare_take : ∀ (l : List UInt8) (pos k : Nat), bare l pos = pos + k → bare (l.take k) pos = bare l pos
  | [], pos, k, _ => by simp [bare]
  | c :: cs, pos, 0, h => by rw [h]; rfl
  | c :: cs, pos, k + 1, h => by
    simp only [bare, List.take_succ_cons] at h ⊢
    split
    · rfl
    · rename_i e; rw [if_neg e] at h; exact bare_take cs (pos + 1) k (by omega)

theorem drop_cons {bs : List UInt8} {i : Nat} (h : i < bs.length) : bs.drop i = bs.getD i 0 :: bs.drop (i + 1) := by
  rw [List.drop_eq_getElem_cons h]; simp [List.getD, h]

theorem walk_past (bs : List UInt8) (i : Nat) (h : bs.length ≤ i) : walk bs i = (bs.length, 0) := by
  unfold walk; rw [List.drop_eq_nil_of_le h]
theorem walk_at (bs : List UInt8) (i : Nat) (h : i < bs.length) : walk bs i =
    if bs.getD i 0 = 34 then (strEnd bs i, 0) else if bs.getD i 0 = 123 ∨ bs.getD i 0 = 91 then cont (bs.drop i) i 0 0 none else (bare (bs.drop i) i, 0) := by
  unfold walk
  rw [drop_cons h]

/-- WHAT THE SECOND LAW SAYS. -/
theorem walk_bounds (bs : List UInt8) (i : Nat) (h : i < bs.length) : i ≤ (walk bs i).1 ∧ (walk bs i).1 ≤ bs.length ∧
    (bs.getD i 0 = 34 → i < (walk bs i).1 ∧ (walk bs i).2 = 0) ∧
    (bs.getD i 0 ≠ 34 → (bs.getD i 0 = 123 ∨ bs.getD i 0 = 91) → i < (walk bs i).1 ∧ 1 ≤ (walk bs i).2 ∧ (walk bs i).2 ≤ (walk bs i).1 - i) ∧
    (bs.getD i 0 ≠ 34 → ¬ (bs.getD i 0 = 123 ∨ bs.getD i 0 = 91) → (walk bs i).2 = 0) := by
  rw [walk_at bs i h]
  by_cases h1 : bs.getD i 0 = 34
  · rw [if_pos h1]
    have := strEnd_bd bs i h
    exact ⟨by simp; omega, by simp; omega, fun _ => ⟨by simp; omega, rfl⟩, fun e => absurd h1 e, fun e => absurd h1 e⟩
  · rw [if_neg h1]
    by_cases h2 : bs.getD i 0 = 123 ∨ bs.getD i 0 = 91
    · rw [if_pos h2, drop_cons h]
      have e : cont (bs.getD i 0 :: bs.drop (i + 1)) i 0 0 none = cont (bs.drop (i + 1)) (i + 1) 1 1 none := by
        rw [cont, if_neg h1, if_pos h2]; rfl
      rw [e]
      have := cont_bd (bs.drop (i + 1)) (i + 1) 1 1 none
      rw [List.length_drop] at this
      exact ⟨by omega, by omega, fun e => absurd e h1, fun _ _ => ⟨by omega, by omega, by omega⟩, fun _ e => absurd h2 e⟩
    · rw [if_neg h2]
      have := bare_bd (bs.drop i) i
      rw [List.length_drop] at this
      exact ⟨by simp; omega, by simp; omega, fun e => absurd e h1, fun _ e => absurd e h2, fun _ _ => rfl⟩

theorem walk_take (bs : List UInt8) (i : Nat) (h : i < bs.length) : walk (bs.take (walk bs i).1) i = walk bs i := by
  have hb := walk_bounds bs i h
  by_cases he : (walk bs i).1 = i
  · rw [walk_past _ _ (by rw [List.length_take]; omega), List.length_take]
    have hd : (walk bs i).2 = 0 := by
      by_cases h1 : bs.getD i 0 = 34
      · exact (hb.2.2.1 h1).2
      · by_cases h2 : bs.getD i 0 = 123 ∨ bs.getD i 0 = 91
        · have := (hb.2.2.2.1 h1 h2).1; omega
        · exact hb.2.2.2.2 h1 h2
    rw [show min (walk bs i).1 bs.length = (walk bs i).1 by omega, ← hd]
  · have hi : i < (bs.take (walk bs i).1).length := by rw [List.length_take]; omega
    have hc : (bs.take (walk bs i).1).getD i 0 = bs.getD i 0 := by
      rw [List.getD, List.getD, List.getElem?_take, if_pos (by omega)]
    rw [walk_at _ _ hi, hc]
    by_cases h1 : bs.getD i 0 = 34
    · rw [if_pos h1]
      have hw : walk bs i = (strEnd bs i, 0) := by rw [walk_at bs i h, if_pos h1]
      rw [hw]
      unfold strEnd
      rw [List.drop_take, scan_take]
      have := strEnd_bd bs i h
      show strEnd bs i ≤ i + 1 + (strEnd bs i - (i + 1))
      omega
    · rw [if_neg h1]
      by_cases h2 : bs.getD i 0 = 123 ∨ bs.getD i 0 = 91
      · rw [if_pos h2]
        have hw : walk bs i = cont (bs.drop i) i 0 0 none := by rw [walk_at bs i h, if_neg h1, if_pos h2]
        rw [List.drop_take, hw, cont_take]
        rw [← hw]; omega
      · rw [if_neg h2]
        have hw : walk bs i = (bare (bs.drop i) i, 0) := by rw [walk_at bs i h, if_neg h1, if_neg h2]
        rw [List.drop_take, hw, bare_take]
        have := bare_bd (bs.drop i) i
        show bare (bs.drop i) i = i + (bare (bs.drop i) i - i)
        omega

end Go.Proofs.Qxb6602262aDoor

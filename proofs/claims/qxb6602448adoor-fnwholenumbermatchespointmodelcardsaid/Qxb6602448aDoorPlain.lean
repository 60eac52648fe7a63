/-
  Seat b6602448aD: the plain law: a JSON number read by positions; the whole number that it stands for, said two ways. No Go in this text.
-/
namespace Go.Proofs.Qxb6602448aDoor

def dig (c : UInt8) : Bool := decide (48 ≤ c.toNat) && decide (c.toNat ≤ 57)

/-- How many digits stand from j on. -/
def rl (bs : List UInt8) (j : Nat) : Nat := ((bs.drop j).takeWhile dig).length

theorem takeWhile_get (p : UInt8 → Bool) : ∀ (l : List UInt8) (k : Nat), k < (l.takeWhile p).length → p (l.getD k 0) = true ∧ k < l.length
  | [], k, h => by simp at h
  | c :: cs, k, h => by
    by_cases hc : p c = true
    · rw [List.takeWhile_cons_of_pos hc] at h
      cases k with
      | zero => exact ⟨by simpa [List.getD] using hc, by simp⟩
      | succ k =>
        have := takeWhile_get p cs k (by simpa using h)
        exact ⟨by simpa [List.getD] using this.1, by simpa using this.2⟩
    · rw [List.takeWhile_cons_of_neg hc] at h; simp at h
theorem takeWhile_stop (p : UInt8 → Bool) : ∀ (l : List UInt8), (l.takeWhile p).length < l.length → p (l.getD (l.takeWhile p).length 0) = false
  | [], h => by simp at h
  | c :: cs, h => by
    by_cases hc : p c = true
    · rw [List.takeWhile_cons_of_pos hc] at h ⊢
      have := takeWhile_stop p cs (by simpa using h)
      simpa [List.getD] using this
    · rw [List.takeWhile_cons_of_neg hc]
      simpa [List.getD] using hc

theorem rl_le (bs : List UInt8) (j : Nat) : rl bs j ≤ bs.length - j := by
  unfold rl
  have := (List.takeWhile_sublist (p := dig) (l := bs.drop j)).length_le
  rwa [List.length_drop] at this
theorem rl_dig (bs : List UInt8) (j k : Nat) (h : k < rl bs j) : dig (bs.getD (j + k) 0) = true := by
  have := (takeWhile_get dig (bs.drop j) k h).1
  simpa [List.getD, List.getElem?_drop] using this
theorem rl_stop (bs : List UInt8) (j : Nat) (h : j + rl bs j < bs.length) : dig (bs.getD (j + rl bs j) 0) = false := by
  have hl : ((bs.drop j).takeWhile dig).length < (bs.drop j).length := by rw [List.length_drop]; unfold rl at h; omega
  have := takeWhile_stop dig (bs.drop j) hl
  simpa [List.getD, List.getElem?_drop, rl] using this

def J0 (bs : List UInt8) : Nat := if bs[0]? = some 45 then 1 else 0
def WL (bs : List UInt8) : Nat := rl bs (J0 bs)
def J1 (bs : List UInt8) : Nat := J0 bs + WL bs
def Dot (bs : List UInt8) : Bool := bs[J1 bs]? == some 46
def J2s (bs : List UInt8) : Nat := if Dot bs then J1 bs + 1 else J1 bs
def FL (bs : List UInt8) : Nat := if Dot bs then rl bs (J2s bs) else 0
def J2 (bs : List UInt8) : Nat := J2s bs + FL bs
def Ex (bs : List UInt8) : Bool := bs[J2 bs]? == some 101 || bs[J2 bs]? == some 69
def Neg (bs : List UInt8) : Bool := bs[J2 bs + 1]? == some 45
def Sg (bs : List UInt8) : Bool := bs[J2 bs + 1]? == some 43 || Neg bs
def J4 (bs : List UInt8) : Nat := if Sg bs then J2 bs + 2 else J2 bs + 1
def XL (bs : List UInt8) : Nat := rl bs (J4 bs)
def okN (bs : List UInt8) : Bool :=
  !(WL bs == 0) && !(decide (1 < WL bs) && (bs.getD (J0 bs) 0 == 48)) && !(Dot bs && (FL bs == 0)) && (if Ex bs then !(XL bs == 0) && (J4 bs + XL bs == bs.length) else (J2 bs == bs.length))
/-- The mantissa's digits: the whole part's, then the fraction's. -/
def Mm (bs : List UInt8) : List UInt8 := (bs.drop (J0 bs)).take (WL bs) ++ (bs.drop (J2s bs)).take (FL bs)

/-- The value of the digits l behind p, growing while it is below cap. -/
def capv (cap : Int) : List UInt8 → Int → Int
  | [], p => p
  | c :: cs, p => capv cap cs (if p < cap then p * 10 + ((c.toNat : Int) - 48) else p)

theorem capv_snoc (cap : Int) (c : UInt8) : ∀ (l : List UInt8) (p : Int), capv cap (l ++ [c]) p = (if capv cap l p < cap then capv cap l p * 10 + ((c.toNat : Int) - 48) else capv cap l p)
  | [], p => rfl
  | d :: ds, p => by
    rw [List.cons_append, capv, capv_snoc cap c ds]
    rfl

theorem capv_bd (cap : Int) (hc : 0 ≤ cap) : ∀ (l : List UInt8) (p : Int), (∀ c ∈ l, dig c = true) → 0 ≤ p → p ≤ cap * 10 + 9 → 0 ≤ capv cap l p ∧ capv cap l p ≤ cap * 10 + 9
  | [], p, _, h0, h1 => ⟨h0, h1⟩
  | c :: cs, p, hd, h0, h1 => by
    have hcd := hd c (by simp)
    simp [dig] at hcd
    refine capv_bd cap hc cs _ (fun x hx => hd x (by simp [hx])) ?_ ?_
    · split <;> omega
    · split <;> omega

/-- Two caps: the same value, or both beyond the smaller one. -/
theorem capv_two (a b : Int) (hab : a ≤ b) : ∀ (l : List UInt8) (p q : Int), (∀ c ∈ l, dig c = true) → 0 ≤ p → 0 ≤ q → (p = q ∨ (a ≤ p ∧ a ≤ q)) →
    capv a l p = capv b l q ∨ (a ≤ capv a l p ∧ a ≤ capv b l q)
  | [], p, q, _, _, _, h => h
  | c :: cs, p, q, hd, hp, hq, h => by
    have hcd := hd c (by simp)
    simp [dig] at hcd
    refine capv_two a b hab cs _ _ (fun x hx => hd x (by simp [hx])) ?_ ?_ ?_
    · split <;> omega
    · split <;> omega
    · rcases h with h | ⟨h1, h2⟩
      · subst h
        by_cases e : p < a
        · left; rw [if_pos e, if_pos (by omega)]
        · right
          rw [if_neg e]
          refine ⟨by omega, ?_⟩
          split <;> omega
      · right
        rw [if_neg (by omega)]
        refine ⟨h1, ?_⟩
        split <;> omega

def Xs (bs : List UInt8) : List UInt8 := (bs.drop (J4 bs)).take (XL bs)
theorem Xs_dig (bs : List UInt8) : ∀ c ∈ Xs bs, dig c = true := by
  intro c hc
  obtain ⟨i, hi, rfl⟩ := List.getElem_of_mem hc
  have hl : (Xs bs).length ≤ XL bs := by unfold Xs; exact List.length_take_le _ _
  have := rl_dig bs (J4 bs) i (by unfold XL at hl; omega)
  have e : (Xs bs)[i] = bs.getD (J4 bs + i) 0 := by
    unfold Xs at hi ⊢
    rw [List.length_take, List.length_drop] at hi
    rw [List.getElem_take, List.getElem_drop]
    simp [List.getD, show J4 bs + i < bs.length by omega]
  rw [e]; exact this
/-- The exponent, its value capped. -/
def expOf (cap : Int) (bs : List UInt8) : Int := if Ex bs then (if Neg bs then - capv cap (Xs bs) 0 else capv cap (Xs bs) 0) else 0

/-- m's first byte that is no zero is at f, its last at la. -/
structure NZ (m : List UInt8) (f la : Nat) : Prop where
  le : f ≤ la
  lt : la < m.length
  nf : m.getD f 0 ≠ 48
  nl : m.getD la 0 ≠ 48
  zf : ∀ k, k < f → m.getD k 0 = 48
  zl : ∀ k, la < k → k < m.length → m.getD k 0 = 48
def AllZ (m : List UInt8) : Prop := ∀ k, k < m.length → m.getD k 0 = 48

/-- The digits that are written out, the point behind digit pt. -/
def digitsTo (m : List UInt8) (f la : Nat) (pt : Int) : List UInt8 := (m.drop f).take (la + 1 - f) ++ List.replicate (pt.toNat - (la + 1)) 48
def sgn (mn : Bool) : List UInt8 := if mn then [45] else []

theorem digitsTo_length (m : List UInt8) (f la : Nat) (pt : Int) (h : NZ m f la) (hp : (la : Int) < pt) : ((digitsTo m f la pt).length : Int) = pt - f := by
  have := h.le; have := h.lt
  unfold digitsTo
  rw [List.length_append, List.length_take, List.length_drop, List.length_replicate]
  omega

/-- What the model appends at step k. -/
theorem digitsTo_get (m : List UInt8) (f la : Nat) (pt : Int) (h : NZ m f la) (k : Nat) (hf : f ≤ k) (hk : (k : Int) < pt) (hp : (la : Int) < pt) :
    (digitsTo m f la pt).getD (k - f) 0 = if k < m.length then m.getD k 0 else 48 := by
  have h1 := h.le; have h2 := h.lt
  unfold digitsTo
  have hl : ((m.drop f).take (la + 1 - f)).length = la + 1 - f := by rw [List.length_take, List.length_drop]; omega
  by_cases hkl : k ≤ la
  · rw [if_pos (by omega), List.getD, List.getElem?_append_left (by omega), List.getElem?_take, if_pos (by omega), List.getElem?_drop, show f + (k - f) = k by omega]
    rfl
  · rw [List.getD, List.getElem?_append_right (by omega), hl, List.getElem?_replicate, if_pos (by omega)]
    by_cases hm : k < m.length
    · rw [if_pos hm, h.zl k (by omega) hm]; rfl
    · rw [if_neg hm]; rfl

/-- What comes back: the bytes (none: nil) and whether it is whole. -/
structure Res (mn : Bool) (m : List UInt8) (wl : Nat) (p : Int) (r : Option (List UInt8)) (b : Bool) : Prop where
  zero : AllZ m → r = some [48] ∧ b = true
  frac : ∀ f la, NZ m f la → (wl : Int) + p ≤ la → r = none ∧ b = false
  great : ∀ f la, NZ m f la → ¬ (wl : Int) + p ≤ la → 20 < (wl : Int) + p - f → r = none ∧ b = true
  whole : ∀ f la, NZ m f la → ¬ (wl : Int) + p ≤ la → ¬ 20 < (wl : Int) + p - f → r = some (sgn mn ++ digitsTo m f la (wl + p)) ∧ b = true

theorem nz_or (m : List UInt8) : AllZ m ∨ ∃ f la, NZ m f la := by
  induction m with
  | nil => left; intro k hk; simp at hk
  | cons c cs ih =>
    rcases ih with h | ⟨f, la, h⟩
    · by_cases hc : c = 48
      · left
        intro k hk
        cases k with
        | zero => simpa [List.getD] using hc
        | succ k => have := h k (by simpa using hk); simpa [List.getD] using this
      · right
        refine ⟨0, 0, ⟨Nat.le_refl _, by simp, by simpa [List.getD] using hc, by simpa [List.getD] using hc, fun k hk => absurd hk (Nat.not_lt_zero _), ?_⟩⟩
        intro k hk hl
        obtain ⟨k, rfl⟩ : ∃ t, k = t + 1 := ⟨k - 1, by omega⟩
        have := h k (by simpa using hl); simpa [List.getD] using this
    · right
      have g : ∀ k, (c :: cs).getD (k + 1) 0 = cs.getD k 0 := fun k => by simp [List.getD]
      by_cases hc : c = 48
      · refine ⟨f + 1, la + 1, ⟨by have := h.le; omega, by have := h.lt; simp; omega, by rw [g]; exact h.nf, by rw [g]; exact h.nl, ?_, ?_⟩⟩
        · intro k hk
          cases k with
          | zero => simpa [List.getD] using hc
          | succ k => rw [g]; exact h.zf k (by omega)
        · intro k hk hl
          obtain ⟨k, rfl⟩ : ∃ t, k = t + 1 := ⟨k - 1, by omega⟩
          rw [g]; exact h.zl k (by omega) (by simpa using hl)
      · refine ⟨0, la + 1, ⟨Nat.zero_le _, by have := h.lt; simp; omega, by simpa [List.getD] using hc, by rw [g]; exact h.nl, fun k hk => absurd hk (Nat.not_lt_zero _), ?_⟩⟩
        intro k hk hl
        obtain ⟨k, rfl⟩ : ∃ t, k = t + 1 := ⟨k - 1, by omega⟩
        rw [g]; exact h.zl k (by omega) (by simpa using hl)

theorem nz_not {m : List UInt8} {f la : Nat} (h : NZ m f la) : ¬ AllZ m := fun e => h.nf (e f (by have := h.le; have := h.lt; omega))

/-- One answer. -/
theorem Res.one {mn : Bool} {m : List UInt8} {wl : Nat} {p q : Int} {r r' : Option (List UInt8)} {b b' : Bool} (h : Res mn m wl p r b) (h' : Res mn m wl q r' b') (N : Nat) (hm : m.length ≤ N) (hw : wl ≤ N)
    (hpq : p = q ∨ ((N : Int) + 20 < p ∧ (N : Int) + 20 < q) ∨ (p < - ((N : Int) + 20) ∧ q < - ((N : Int) + 20))) : r = r' ∧ b = b' := by
  rcases nz_or m with hz | ⟨f, la, hn⟩
  · obtain ⟨e1, e2⟩ := h.zero hz
    obtain ⟨e3, e4⟩ := h'.zero hz
    exact ⟨e1.trans e3.symm, e2.trans e4.symm⟩
  · have := hn.le; have := hn.lt
    rcases hpq with e | ⟨e1, e2⟩ | ⟨e1, e2⟩
    · subst e
      by_cases c1 : (wl : Int) + p ≤ la
      · obtain ⟨a1, a2⟩ := h.frac f la hn c1
        obtain ⟨a3, a4⟩ := h'.frac f la hn c1
        exact ⟨a1.trans a3.symm, a2.trans a4.symm⟩
      · by_cases c2 : 20 < (wl : Int) + p - f
        · obtain ⟨a1, a2⟩ := h.great f la hn c1 c2
          obtain ⟨a3, a4⟩ := h'.great f la hn c1 c2
          exact ⟨a1.trans a3.symm, a2.trans a4.symm⟩
        · obtain ⟨a1, a2⟩ := h.whole f la hn c1 c2
          obtain ⟨a3, a4⟩ := h'.whole f la hn c1 c2
          exact ⟨a1.trans a3.symm, a2.trans a4.symm⟩
    · obtain ⟨a1, a2⟩ := h.great f la hn (by omega) (by omega)
      obtain ⟨a3, a4⟩ := h'.great f la hn (by omega) (by omega)
      exact ⟨a1.trans a3.symm, a2.trans a4.symm⟩
    · obtain ⟨a1, a2⟩ := h.frac f la hn (by omega)
      obtain ⟨a3, a4⟩ := h'.frac f la hn (by omega)
      exact ⟨a1.trans a3.symm, a2.trans a4.symm⟩

theorem expOf_two (bs : List UInt8) (lim : Int) (hl : 0 ≤ lim) (hc : lim < 1099511627776) :
    expOf (lim + 1) bs = expOf 1099511627776 bs ∨ (lim < expOf (lim + 1) bs ∧ lim < expOf 1099511627776 bs) ∨ (expOf (lim + 1) bs < - lim ∧ expOf 1099511627776 bs < - lim) := by
  unfold expOf
  rcases capv_two (lim + 1) 1099511627776 (by omega) (Xs bs) 0 0 (Xs_dig bs) (by omega) (by omega) (.inl rfl) with h | ⟨h1, h2⟩
  · left; rw [h]
  · cases Ex bs
    · left; rfl
    · cases Neg bs
      · right; left; exact ⟨by simp; omega, by simp; omega⟩
      · right; right; exact ⟨by simp; omega, by simp; omega⟩

end Go.Proofs.Qxb6602448aDoor

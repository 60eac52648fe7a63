/-
  Seat b6602448aD: the plain law of decimalOf: where the parts of a JSON number lie. No Go in this text but the library's plain functions.
-/
import Derived.Test.Qxb6602448aDoorPlain
import Derived.Lib.Index
import Derived.Lib.IndexAny
import Derived.Lib.SlTrimSet
namespace Go.Proofs.Qxb6602448aDoor

theorem any_at (cs : List UInt8) : ∀ (l : List UInt8) (i : Nat), i < l.length → cs.contains (l.getD i 0) = true → (∀ j, j < i → cs.contains (l.getD j 0) = false) → Lib.indexAny l cs = i
  | [], i, h, _, _ => by simp at h
  | b :: l, 0, _, hc, _ => by
    have hc' : cs.contains b = true := by simpa [List.getD] using hc
    unfold Lib.indexAny; rw [if_pos hc']; rfl
  | b :: l, i + 1, h, hc, hb => by
    have h0 : cs.contains b = false := by simpa [List.getD] using hb 0 (by omega)
    have ih := any_at cs l i (by simpa using h) (by simpa [List.getD] using hc) (fun j hj => by simpa [List.getD] using hb (j + 1) (by omega))
    unfold Lib.indexAny
    rw [if_neg (by rw [h0]; decide), ih, if_neg]
    · simp
    · simp only [beq_iff_eq]; omega
theorem any_no (cs : List UInt8) : ∀ (l : List UInt8), (∀ j, j < l.length → cs.contains (l.getD j 0) = false) → Lib.indexAny l cs = -1
  | [], _ => rfl
  | b :: l, hb => by
    have h0 : cs.contains b = false := by simpa [List.getD] using hb 0 (by simp)
    have ih := any_no cs l (fun j hj => by simpa [List.getD] using hb (j + 1) (by simpa using hj))
    unfold Lib.indexAny
    rw [if_neg (by rw [h0]; decide), ih]
    rfl
theorem one_at (x : UInt8) : ∀ (l : List UInt8) (i : Nat), i < l.length → l.getD i 0 = x → (∀ j, j < i → l.getD j 0 ≠ x) → Lib.index l [x] = i
  | [], i, h, _, _ => by simp at h
  | b :: l, 0, _, hc, _ => by
    have hc' : b = x := by simpa [List.getD] using hc
    unfold Lib.index; rw [if_pos (by simp [List.isPrefixOf, hc'])]; rfl
  | b :: l, i + 1, h, hc, hb => by
    have h0 : b ≠ x := by simpa [List.getD] using hb 0 (by omega)
    have ih := one_at x l i (by simpa using h) (by simpa [List.getD] using hc) (fun j hj => by simpa [List.getD] using hb (j + 1) (by omega))
    unfold Lib.index
    rw [if_neg (by simp [List.isPrefixOf, Ne.symm h0]), ih, if_neg]
    · simp
    · simp only [beq_iff_eq]; omega
theorem one_no (x : UInt8) : ∀ (l : List UInt8), (∀ j, j < l.length → l.getD j 0 ≠ x) → Lib.index l [x] = -1
  | [], _ => rfl
  | b :: l, hb => by
    have h0 : b ≠ x := by simpa [List.getD] using hb 0 (by simp)
    have ih := one_no x l (fun j hj => by simpa [List.getD] using hb (j + 1) (by simpa using hj))
    unfold Lib.index
    rw [if_neg (by simp [List.isPrefixOf, Ne.symm h0]), ih]
    rfl

/-- What okN says. -/
structure Ok (bs : List UInt8) : Prop where
  w1 : 1 ≤ WL bs
  f1 : Dot bs = true → 1 ≤ FL bs
  x1 : Ex bs = true → 1 ≤ XL bs ∧ J4 bs + XL bs = bs.length
  e0 : Ex bs = false → J2 bs = bs.length
theorem ok_of {bs : List UInt8} (h : okN bs = true) : Ok bs := by
  unfold okN at h
  simp only [Bool.and_eq_true, Bool.not_eq_true', Bool.and_eq_false_iff, beq_eq_false_iff_ne] at h
  obtain ⟨⟨⟨h1, _⟩, h3⟩, h4⟩ := h
  refine ⟨by omega, ?_, ?_, ?_⟩
  · intro e
    rcases h3 with h3 | h3
    · rw [e] at h3; cases h3
    · omega
  · intro e
    rw [e, if_pos rfl] at h4
    simp at h4
    omega
  · intro e
    rw [e] at h4
    simpa using h4

theorem getD_drop (l : List UInt8) (i k : Nat) : (l.drop i).getD k 0 = l.getD (i + k) 0 := by simp [List.getD, List.getElem?_drop]
theorem getD_take (l : List UInt8) (n k : Nat) (h : k < n) : (l.take n).getD k 0 = l.getD k 0 := by simp [List.getD, h]
theorem getD_some {l : List UInt8} {i : Nat} {x : UInt8} (h : l[i]? = some x) : l.getD i 0 = x ∧ i < l.length := by
  refine ⟨by simp [List.getD, h], ?_⟩
  exact (List.getElem?_eq_some_iff.1 h).1

/-- The mantissa: digits, but for the point. -/
theorem body (bs : List UInt8) (k : Nat) (hk : k < J2 bs - J0 bs) : (Dot bs = true ∧ k = WL bs ∧ bs.getD (J0 bs + k) 0 = 46) ∨ (k ≠ WL bs ∧ dig (bs.getD (J0 bs + k) 0) = true) ∨ (Dot bs = false ∧ k < WL bs) := by
  unfold J2 FL J2s J1 at hk
  by_cases h1 : k < WL bs
  · exact .inr (.inl ⟨by omega, rl_dig bs (J0 bs) k h1⟩)
  · cases hd : Dot bs with
    | false => rw [hd] at hk; simp at hk; omega
    | true =>
      rw [hd] at hk
      simp at hk
      by_cases h2 : k = WL bs
      · refine .inl ⟨rfl, h2, ?_⟩
        unfold Dot J1 at hd
        rw [h2]
        exact (getD_some (by simpa using hd)).1
      · refine .inr (.inl ⟨h2, ?_⟩)
        have := rl_dig bs (J0 bs + WL bs + 1) (k - WL bs - 1) (by omega)
        rwa [show J0 bs + WL bs + 1 + (k - WL bs - 1) = J0 bs + k by omega] at this
theorem dig_not {c : UInt8} (h : dig c = true) (x : UInt8) (hx : x.toNat < 48 ∨ 57 < x.toNat) : c ≠ x := fun e => by
  subst e
  unfold dig at h
  simp at h
  omega
theorem body_no (bs : List UInt8) (k : Nat) (hk : k < J2 bs - J0 bs) : ([101, 69] : List UInt8).contains (bs.getD (J0 bs + k) 0) = false := by
  have key : ∀ c : UInt8, c ≠ 101 → c ≠ 69 → ([101, 69] : List UInt8).contains c = false := fun c h1 h2 => by simp [h1, h2]
  rcases body bs k hk with ⟨_, _, h⟩ | ⟨_, h⟩ | ⟨_, h⟩
  · rw [h]; decide
  · exact key _ (dig_not h 101 (by decide)) (dig_not h 69 (by decide))
  · have h := rl_dig bs (J0 bs) k h
    exact key _ (dig_not h 101 (by decide)) (dig_not h 69 (by decide))

theorem J_le (bs : List UInt8) : J0 bs + WL bs ≤ J2 bs := by unfold J2 FL J2s J1; split <;> omega

theorem index_e (bs : List UInt8) (h : Ok bs) : Lib.indexAny (bs.drop (J0 bs)) [101, 69] = if Ex bs then ((J2 bs - J0 bs : Nat) : Int) else -1 := by
  have hj := J_le bs
  cases hx : Ex bs with
  | true =>
    rw [if_pos rfl]
    have hl : J2 bs < bs.length ∧ ([101, 69] : List UInt8).contains (bs.getD (J2 bs) 0) = true := by
      unfold Ex at hx
      rw [Bool.or_eq_true] at hx
      rcases hx with hx | hx
      · obtain ⟨e, hl⟩ := getD_some (show bs[J2 bs]? = some 101 by simpa using hx)
        exact ⟨hl, by rw [e]; decide⟩
      · obtain ⟨e, hl⟩ := getD_some (show bs[J2 bs]? = some 69 by simpa using hx)
        exact ⟨hl, by rw [e]; decide⟩
    refine any_at _ _ _ (by rw [List.length_drop]; omega) ?_ (fun j hj' => by rw [getD_drop]; exact body_no bs j hj')
    rw [getD_drop, show J0 bs + (J2 bs - J0 bs) = J2 bs by omega]
    exact hl.2
  | false =>
    rw [if_neg (by decide)]
    refine any_no _ _ (fun j hj' => ?_)
    rw [List.length_drop] at hj'
    rw [getD_drop]
    exact body_no bs j (by rw [h.e0 hx]; exact hj')

/-- The mantissa's bytes. -/
def Mt (bs : List UInt8) : List UInt8 := (bs.drop (J0 bs)).take (J2 bs - J0 bs)
theorem Mt_length (bs : List UInt8) (h2 : J2 bs ≤ bs.length) : (Mt bs).length = J2 bs - J0 bs := by
  unfold Mt; rw [List.length_take, List.length_drop]; omega
theorem Mt_get (bs : List UInt8) (k : Nat) (h : k < J2 bs - J0 bs) : (Mt bs).getD k 0 = bs.getD (J0 bs + k) 0 := by
  unfold Mt; rw [getD_take _ _ _ h, getD_drop]

theorem index_dot (bs : List UInt8) (h2 : J2 bs ≤ bs.length) : Lib.index (Mt bs) [46] = if Dot bs then ((WL bs : Nat) : Int) else -1 := by
  have hw : ∀ k, k < WL bs → bs.getD (J0 bs + k) 0 ≠ 46 := fun k hk => dig_not (rl_dig bs (J0 bs) k hk) 46 (by decide)
  cases hd : Dot bs with
  | true =>
    rw [if_pos rfl]
    have hl : WL bs < J2 bs - J0 bs := by
      unfold J2 J2s J1; rw [hd]; simp; omega
    refine one_at _ _ _ (by rw [Mt_length bs h2]; exact hl) ?_ (fun j hj => by rw [Mt_get bs j (by omega)]; exact hw j hj)
    rw [Mt_get bs _ hl]
    unfold Dot J1 at hd
    exact (getD_some (by simpa using hd)).1
  | false =>
    rw [if_neg (by decide)]
    refine one_no _ _ (fun j hj => ?_)
    rw [Mt_length bs h2] at hj
    rw [Mt_get bs j hj]
    refine hw j ?_
    unfold J2 FL J2s J1 at hj
    rw [hd] at hj
    simp at hj
    omega

theorem whole_eq (bs : List UInt8) : (Mt bs).take (WL bs) = (bs.drop (J0 bs)).take (WL bs) := by
  have hj := J_le bs
  unfold Mt
  rw [List.take_take, Nat.min_eq_left (by omega)]
theorem frac_eq (bs : List UInt8) (hd : Dot bs = true) : (Mt bs).drop (WL bs + 1) = (bs.drop (J2s bs)).take (FL bs) := by
  unfold Mt J2 J2s J1
  rw [hd, List.drop_take, List.drop_drop]
  simp only [if_true]
  rw [show J0 bs + (WL bs + 1) = J0 bs + WL bs + 1 by omega, show J0 bs + WL bs + 1 + FL bs - J0 bs - (WL bs + 1) = FL bs by omega]
theorem Mt_nodot (bs : List UInt8) (hd : Dot bs = false) : Mt bs = (bs.drop (J0 bs)).take (WL bs) := by
  unfold Mt J2 FL J2s J1
  rw [hd]
  simp

theorem trimL_all (m : List UInt8) (h : AllZ m) : Lib.trimLeftS m [48] = [] := by
  rw [Lib.trimLeftS_drop m [48] m.length (Nat.le_refl _), List.drop_length]
  · intro j b hj hb
    have := h j hj
    rw [List.getD, hb] at this
    have e : b = 48 := this
    rw [e]; decide
  · intro b hb
    rw [List.getElem?_eq_none (Nat.le_refl _)] at hb
    cases hb
theorem c48 {b : UInt8} (h : b ≠ 48) : ([48] : List UInt8).contains b = false := by simp [h]
theorem trimL_nz {m : List UInt8} {f la : Nat} (h : NZ m f la) : Lib.trimLeftS m [48] = m.drop f := by
  have h1 := h.le
  have h2 := h.lt
  refine Lib.trimLeftS_drop m [48] f (by omega) ?_ ?_
  · intro j b hj hb
    have := h.zf j hj
    rw [List.getD, hb] at this
    have e : b = 48 := this
    rw [e]; decide
  · intro b hb
    have := h.nf
    rw [List.getD, hb] at this
    exact c48 this
theorem trimR_nz {m : List UInt8} {f la : Nat} (h : NZ m f la) : Lib.trimRightS (m.drop f) [48] = (m.drop f).take (la + 1 - f) := by
  have h1 := h.le
  have h2 := h.lt
  refine Lib.trimRightS_take (m.drop f) [48] (la + 1 - f) (by rw [List.length_drop]; omega) ?_ ?_
  · intro j b hj hb
    rw [List.getElem?_drop] at hb
    have hl := (List.getElem?_eq_some_iff.1 hb).1
    have := h.zl (f + j) (by omega) hl
    rw [List.getD, hb] at this
    have e : b = 48 := this
    rw [e]; decide
  · intro b _ hb
    rw [List.getElem?_drop, show f + (la + 1 - f - 1) = la by omega] at hb
    have := h.nl
    rw [List.getD, hb] at this
    exact c48 this
theorem Mm_length (bs : List UInt8) (h2 : J2 bs ≤ bs.length) : (Mm bs).length = WL bs + FL bs := by
  have hj := J_le bs
  unfold Mm
  rw [List.length_append, List.length_take, List.length_drop, List.length_take, List.length_drop]
  unfold J2 at h2 hj
  omega

/-- The plain decimal: its digits, its shift. -/
def Dg (bs : List UInt8) : List UInt8 := Lib.trimRightS (Lib.trimLeftS (Mm bs) [48]) [48]
def Sh (bs : List UInt8) : Int := ((Lib.trimLeftS (Mm bs) [48]).length : Int) - (Dg bs).length - FL bs
theorem Dg_zero (bs : List UInt8) (h : AllZ (Mm bs)) : Dg bs = [] := by unfold Dg; rw [trimL_all _ h]; rfl
theorem Dg_nz {bs : List UInt8} {f la : Nat} (h : NZ (Mm bs) f la) : Dg bs = ((Mm bs).drop f).take (la + 1 - f) := by unfold Dg; rw [trimL_nz h, trimR_nz h]
theorem Dg_len {bs : List UInt8} {f la : Nat} (h : NZ (Mm bs) f la) : (Dg bs).length = la + 1 - f := by
  have h1 := h.le
  have h2 := h.lt
  rw [Dg_nz h, List.length_take, List.length_drop]
  omega
theorem Sh_nz {bs : List UInt8} {f la : Nat} (h : NZ (Mm bs) f la) (h2 : J2 bs ≤ bs.length) : Sh bs = (WL bs : Int) - 1 - la := by
  have h1 := h.le
  have h3 := h.lt
  have hl := Mm_length bs h2
  unfold Sh
  rw [trimL_nz h, Dg_len h, List.length_drop]
  omega
end Go.Proofs.Qxb6602448aDoor

/-
  THE PLAIN LAW of 'CommentEnd': a scanner with a depth over a list of bytes. No Go in sight.
-/
namespace Go.Proofs.Qxb6628021a.Plain

/-- the two bytes a, b stand at place i of l -/
def at2 (l : List UInt8) (i : Nat) (a b : UInt8) : Bool := l[i]? == some a && l[i + 1]? == some b

theorem at2_lt {l : List UInt8} {i : Nat} {a b : UInt8} (h : at2 l i a b = true) : i + 2 ≤ l.length := by
  unfold at2 at h
  simp only [Bool.and_eq_true, beq_iff_eq] at h
  obtain ⟨_, h2⟩ := h
  have := (List.getElem?_eq_some_iff.1 h2).1
  omega

/-- the scanner, with fuel -/
def ce (l : List UInt8) : Nat → Nat → Int → Nat
  | 0, i, _ => i
  | f + 1, i, d =>
    if i < l.length then
      if at2 l i 47 42 then ce l f (i + 2) (d + 1)
      else if at2 l i 42 47 then (if d - 1 = 0 then i + 2 else ce l f (i + 2) (d - 1))
      else ce l f (i + 1) d
    else i

theorem ce_fuel (l : List UInt8) : ∀ (f g i : Nat) (d : Int), l.length - i ≤ f → l.length - i ≤ g → ce l f i d = ce l g i d := by
  intro f
  induction f with
  | zero =>
    intro g i d hf _
    cases g with
    | zero => rfl
    | succ g => simp only [ce]; rw [if_neg (by omega)]
  | succ f ih =>
    intro g i d hf hg
    cases g with
    | zero => simp only [ce]; rw [if_neg (by omega)]
    | succ g =>
      simp only [ce]
      rw [ih g (i + 2) (d + 1) (by omega) (by omega), ih g (i + 2) (d - 1) (by omega) (by omega), ih g (i + 1) d (by omega) (by omega)]

def CE (l : List UInt8) (i : Nat) (d : Int) : Nat := ce l l.length i d

theorem CE_eq (l : List UInt8) (i : Nat) (d : Int) : CE l i d =
    if i < l.length then
      if at2 l i 47 42 then CE l (i + 2) (d + 1)
      else if at2 l i 42 47 then (if d - 1 = 0 then i + 2 else CE l (i + 2) (d - 1))
      else CE l (i + 1) d
    else i := by
  unfold CE
  rw [ce_fuel l l.length (l.length + 1) i d (by omega) (by omega)]
  rfl

theorem CE_end {l : List UInt8} {i : Nat} (d : Int) (h : l.length ≤ i) : CE l i d = i := by
  rw [CE_eq, if_neg (by omega)]
theorem CE_open {l : List UInt8} {i : Nat} (d : Int) (h : at2 l i 47 42 = true) : CE l i d = CE l (i + 2) (d + 1) := by
  have := at2_lt h
  rw [CE_eq, if_pos (by omega), if_pos h]
theorem CE_close {l : List UInt8} {i : Nat} {d : Int} (h1 : at2 l i 47 42 = false) (h : at2 l i 42 47 = true) (hd : d ≠ 1) : CE l i d = CE l (i + 2) (d - 1) := by
  have := at2_lt h
  rw [CE_eq, if_pos (by omega), if_neg (by simp [h1]), if_pos h, if_neg (by omega)]
theorem CE_last {l : List UInt8} {i : Nat} (h1 : at2 l i 47 42 = false) (h : at2 l i 42 47 = true) : CE l i 1 = i + 2 := by
  have := at2_lt h
  rw [CE_eq, if_pos (by omega), if_neg (by simp [h1]), if_pos h, if_pos (by omega)]
theorem CE_other {l : List UInt8} {i : Nat} (d : Int) (hi : i < l.length) (h1 : at2 l i 47 42 = false) (h2 : at2 l i 42 47 = false) : CE l i d = CE l (i + 1) d := by
  rw [CE_eq, if_pos hi, if_neg (by simp [h1]), if_neg (by simp [h2])]

theorem at2_excl {l : List UInt8} {i : Nat} (h : at2 l i 42 47 = true) : at2 l i 47 42 = false := by
  unfold at2 at h ⊢
  simp only [Bool.and_eq_true, beq_iff_eq] at h
  rw [h.1]; rfl

/-- one step of the scanner: a strong induction in four ways -/
theorem CE_ind (l : List UInt8) (P : Nat → Int → Prop)
    (hend : ∀ i d, l.length ≤ i → P i d)
    (hopen : ∀ i d, at2 l i 47 42 = true → (∀ j e, i < j → P j e) → P i d)
    (hclose : ∀ i d, at2 l i 47 42 = false → at2 l i 42 47 = true → (∀ j e, i < j → P j e) → P i d)
    (hother : ∀ i d, i < l.length → at2 l i 47 42 = false → at2 l i 42 47 = false → (∀ j e, i < j → P j e) → P i d) :
    ∀ i d, P i d := by
  have key : ∀ n i d, l.length - i ≤ n → P i d := by
    intro n
    induction n with
    | zero => intro i d h; exact hend i d (by omega)
    | succ n ih =>
      intro i d h
      by_cases hi : i < l.length
      · have IH : ∀ j e, i < j → P j e := by
          intro j e hj
          exact ih j e (by omega)
        cases h1 : at2 l i 47 42
        · cases h2 : at2 l i 42 47
          · exact hother i d hi h1 h2 IH
          · exact hclose i d h1 h2 IH
        · exact hopen i d h1 IH
      · exact hend i d (by omega)
  intro i d
  exact key _ i d (Nat.le_refl _)

theorem CE_ge (l : List UInt8) : ∀ i d, i ≤ CE l i d := by
  refine CE_ind l (fun i d => i ≤ CE l i d) ?_ ?_ ?_ ?_
  · intro i d h; rw [CE_end d h]; exact Nat.le_refl _
  · intro i d h ih; rw [CE_open d h]; have := ih (i + 2) (d + 1) (by omega); omega
  · intro i d h1 h2 ih
    by_cases hd : d = 1
    · subst hd; rw [CE_last h1 h2]; omega
    · rw [CE_close h1 h2 hd]; have := ih (i + 2) (d - 1) (by omega); omega
  · intro i d hi h1 h2 ih; rw [CE_other d hi h1 h2]; have := ih (i + 1) d (by omega); omega

theorem CE_le (l : List UInt8) : ∀ i d, i ≤ l.length → CE l i d ≤ l.length := by
  refine CE_ind l (fun i d => i ≤ l.length → CE l i d ≤ l.length) ?_ ?_ ?_ ?_
  · intro i d h h'; rw [CE_end d h]; exact h'
  · intro i d h ih _; rw [CE_open d h]; exact ih (i + 2) (d + 1) (by omega) (at2_lt h)
  · intro i d h1 h2 ih _
    by_cases hd : d = 1
    · subst hd; rw [CE_last h1 h2]; exact at2_lt h2
    · rw [CE_close h1 h2 hd]; exact ih (i + 2) (d - 1) (by omega) (at2_lt h2)
  · intro i d hi h1 h2 ih _; rw [CE_other d hi h1 h2]; exact ih (i + 1) d (by omega) (by omega)

/-- a comment that is read at depth d + 1: first the innermost, then the rest -/
theorem CE_nest (l : List UInt8) : ∀ i d, 1 ≤ d → CE l i (d + 1) = CE l (CE l i 1) d := by
  refine CE_ind l (fun i d => 1 ≤ d → CE l i (d + 1) = CE l (CE l i 1) d) ?_ ?_ ?_ ?_
  · intro i d h _; rw [CE_end _ h, CE_end _ h, CE_end _ h]
  · intro i d h ih hd
    have g := CE_ge l (i + 2) 1
    rw [CE_open _ h, CE_open 1 h]
    rw [ih (i + 2) (d + 1) (by omega) (by omega), ih (CE l (i + 2) 1) d (by omega) hd, ih (i + 2) 1 (by omega) (by omega)]
  · intro i d h1 h2 ih hd
    rw [CE_last h1 h2, CE_close h1 h2 (by omega)]
    rw [show d + 1 - 1 = d from by omega]
  · intro i d hi h1 h2 ih hd
    rw [CE_other _ hi h1 h2, CE_other 1 hi h1 h2]
    exact ih (i + 1) d (by omega) hd

/-- the nested reader's own step -/
theorem CE_descend {l : List UInt8} {i : Nat} (h : at2 l i 47 42 = true) : CE l i 1 = CE l (CE l (i + 2) 1) 1 := by
  rw [CE_open 1 h, CE_nest l (i + 2) 1 (by omega)]

/-- unless it is the text's end, the end stands behind a closing mark -/
theorem CE_closed (l : List UInt8) : ∀ i d, i ≤ l.length → CE l i d = l.length ∨ (2 ≤ CE l i d ∧ at2 l (CE l i d - 2) 42 47 = true) := by
  refine CE_ind l (fun i d => i ≤ l.length → CE l i d = l.length ∨ (2 ≤ CE l i d ∧ at2 l (CE l i d - 2) 42 47 = true)) ?_ ?_ ?_ ?_
  · intro i d h h'; rw [CE_end d h]; exact Or.inl (by omega)
  · intro i d h ih _; rw [CE_open d h]; exact ih (i + 2) (d + 1) (by omega) (at2_lt h)
  · intro i d h1 h2 ih _
    by_cases hd : d = 1
    · subst hd; rw [CE_last h1 h2]; exact Or.inr ⟨by omega, h2⟩
    · rw [CE_close h1 h2 hd]; exact ih (i + 2) (d - 1) (by omega) (at2_lt h2)
  · intro i d hi h1 h2 ih _; rw [CE_other d hi h1 h2]; exact ih (i + 1) d (by omega) (by omega)

theorem at2_take {l : List UInt8} {i k : Nat} (a b : UInt8) (h : i + 2 ≤ k) : at2 (l.take k) i a b = at2 l i a b := by
  unfold at2
  rw [List.getElem?_take_of_lt (by omega), List.getElem?_take_of_lt (by omega)]
theorem at2_short {l : List UInt8} {i : Nat} (a b : UInt8) (h : l.length ≤ i + 1) : at2 l i a b = false := by
  cases hh : at2 l i a b
  · rfl
  · have := at2_lt hh; omega

/-- the text cut at k answers the lesser of k and the whole text's answer -/
theorem CE_cut (l : List UInt8) (k : Nat) (hk : k ≤ l.length) : ∀ i d, i ≤ k → CE (l.take k) i d = min (CE l i d) k := by
  have hl : (l.take k).length = k := by rw [List.length_take]; omega
  have stop : ∀ i d, i ≤ k → k ≤ i + 1 → CE (l.take k) i d = k := by
    intro i d h1 h2
    by_cases h : i = k
    · rw [CE_end d (by omega)]; exact h
    · rw [CE_other d (by omega) (at2_short _ _ (by omega)) (at2_short _ _ (by omega)), CE_end d (by omega)]; omega
  refine CE_ind l (fun i d => i ≤ k → CE (l.take k) i d = min (CE l i d) k) ?_ ?_ ?_ ?_
  · intro i d h h'
    have e : i = k := by omega
    rw [CE_end d (by omega), CE_end d h]; omega
  · intro i d h ih h'
    by_cases hs : i + 2 ≤ k
    · rw [CE_open d h, CE_open d (by rw [at2_take _ _ hs]; exact h)]
      exact ih (i + 2) (d + 1) (by omega) hs
    · rw [stop i d h' (by omega), CE_open d h]
      have := CE_ge l (i + 2) (d + 1)
      omega
  · intro i d h1 h2 ih h'
    by_cases hs : i + 2 ≤ k
    · have e1 : at2 (l.take k) i 47 42 = false := by rw [at2_take _ _ hs]; exact h1
      have e2 : at2 (l.take k) i 42 47 = true := by rw [at2_take _ _ hs]; exact h2
      by_cases hd : d = 1
      · subst hd; rw [CE_last h1 h2, CE_last e1 e2]; omega
      · rw [CE_close h1 h2 hd, CE_close e1 e2 hd]; exact ih (i + 2) (d - 1) (by omega) hs
    · rw [stop i d h' (by omega)]
      have g : i + 2 ≤ CE l i d := by
        by_cases hd : d = 1
        · subst hd; rw [CE_last h1 h2]; omega
        · rw [CE_close h1 h2 hd]; exact CE_ge l (i + 2) (d - 1)
      omega
  · intro i d hi h1 h2 ih h'
    by_cases hs : i + 2 ≤ k
    · have e1 : at2 (l.take k) i 47 42 = false := by rw [at2_take _ _ hs]; exact h1
      have e2 : at2 (l.take k) i 42 47 = false := by rw [at2_take _ _ hs]; exact h2
      rw [CE_other d hi h1 h2, CE_other d (by omega) e1 e2]
      exact ih (i + 1) d (by omega) (by omega)
    · rw [stop i d h' (by omega)]
      have g := CE_ge l (i + 1) d
      by_cases he : i = k
      · have := CE_ge l i d; omega
      · rw [CE_other d hi h1 h2]; omega

end Go.Proofs.Qxb6628021a.Plain

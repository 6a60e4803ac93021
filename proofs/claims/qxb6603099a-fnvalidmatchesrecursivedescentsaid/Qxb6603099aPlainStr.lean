namespace Go.Proofs.Qxb6603099a.Pl

/-- One hexadecimal digit, as isHex tests it. -/
def hexB (c : Int) : Bool := (decide (48 ≤ c) && decide (c ≤ 57)) || (decide (97 ≤ c) && decide (c ≤ 102)) || (decide (65 ≤ c) && decide (c ≤ 70))
/-- The one-byte escapes. -/
def escB (c : Int) : Bool := c == 34 || c == 92 || c == 47 || c == 98 || c == 102 || c == 110 || c == 114 || c == 116

/-- validString's loop from offset i on, with fuel. -/
def vsF (t : Nat → Int) (n : Nat) : Nat → Nat → Int
  | 0, _ => -1
  | f + 1, i =>
    if n ≤ i then -1
    else if t i = 34 then (i : Int) + 1
    else if t i < 32 then -1
    else if t i = 92 then
      if n ≤ i + 1 then -1
      else if escB (t (i + 1)) = true then vsF t n f (i + 2)
      else if t (i + 1) = 117 then
        if i + 5 < n ∧ hexB (t (i + 2)) = true ∧ hexB (t (i + 3)) = true ∧ hexB (t (i + 4)) = true ∧ hexB (t (i + 5)) = true then vsF t n f (i + 6) else -1
      else -1
    else vsF t n f (i + 1)

theorem vsF_fuel (t : Nat → Int) (n : Nat) : ∀ f g i, n ≤ i + f → n ≤ i + g → vsF t n f i = vsF t n g i := by
  intro f
  induction f with
  | zero =>
    intro g i h1 h2
    cases g with
    | zero => rfl
    | succ g => simp [vsF]; omega
  | succ f ih =>
    intro g i h1 h2
    cases g with
    | zero => simp [vsF]; omega
    | succ g =>
      simp only [vsF]
      rw [ih g (i + 1) (by omega) (by omega), ih g (i + 2) (by omega) (by omega), ih g (i + 6) (by omega) (by omega)]

def vS (t : Nat → Int) (n : Nat) (i : Nat) : Int := vsF t n (n + 1 - i) i

theorem vS_of (t : Nat → Int) (n f i : Nat) (h : n ≤ i + f) : vsF t n f i = vS t n i := vsF_fuel t n _ _ _ h (by omega)

theorem vS_end {t : Nat → Int} {n i : Nat} (h : n ≤ i) : vS t n i = -1 := by
  rw [← vS_of t n 1 i (by omega)]; simp [vsF, h]
theorem vS_eq {t : Nat → Int} {n i : Nat} (h : i < n) : vS t n i =
    if t i = 34 then (i : Int) + 1
    else if t i < 32 then -1
    else if t i = 92 then
      if n ≤ i + 1 then -1
      else if escB (t (i + 1)) = true then vS t n (i + 2)
      else if t (i + 1) = 117 then
        if i + 5 < n ∧ hexB (t (i + 2)) = true ∧ hexB (t (i + 3)) = true ∧ hexB (t (i + 4)) = true ∧ hexB (t (i + 5)) = true then vS t n (i + 6) else -1
      else -1
    else vS t n (i + 1) := by
  rw [← vS_of t n (n + 1) i (by omega)]
  simp only [vsF]
  rw [if_neg (by omega), vS_of _ _ _ _ (by omega), vS_of _ _ _ _ (by omega), vS_of _ _ _ _ (by omega)]

/-- The answer is -1 or an offset behind i, at most n, with a quote just before it. -/
theorem vS_range (t : Nat → Int) (n : Nat) : ∀ k i, n ≤ i + k → vS t n i = -1 ∨ ∃ r : Nat, vS t n i = r ∧ i < r ∧ r ≤ n ∧ t (r - 1) = 34 := by
  intro k
  induction k with
  | zero => intro i h; exact .inl (vS_end (by omega))
  | succ k ih =>
    intro i h
    by_cases hi : n ≤ i
    · exact .inl (vS_end hi)
    · have e := vS_eq (t := t) (n := n) (i := i) (by omega)
      by_cases h1 : t i = 34
      · rw [if_pos h1] at e
        exact .inr ⟨i + 1, by rw [e]; rfl, by omega, by omega, by simpa using h1⟩
      · rw [if_neg h1] at e
        by_cases h2 : t i < 32
        · rw [if_pos h2] at e; exact .inl e
        · rw [if_neg h2] at e
          by_cases h3 : t i = 92
          · rw [if_pos h3] at e
            by_cases h4 : n ≤ i + 1
            · rw [if_pos h4] at e; exact .inl e
            · rw [if_neg h4] at e
              by_cases h5 : escB (t (i + 1)) = true
              · rw [if_pos h5] at e; rw [e]
                rcases ih (i + 2) (by omega) with h | ⟨r, a, b, c, d⟩
                · exact .inl h
                · exact .inr ⟨r, a, by omega, c, d⟩
              · rw [if_neg h5] at e
                by_cases h6 : t (i + 1) = 117
                · rw [if_pos h6] at e
                  split at e
                  · rw [e]
                    rcases ih (i + 6) (by omega) with h | ⟨r, a, b, c, d⟩
                    · exact .inl h
                    · exact .inr ⟨r, a, by omega, c, d⟩
                  · exact .inl e
                · rw [if_neg h6] at e; exact .inl e
          · rw [if_neg h3] at e; rw [e]
            rcases ih (i + 1) (by omega) with h | ⟨r, a, b, c, d⟩
            · exact .inl h
            · exact .inr ⟨r, a, by omega, c, d⟩

/-- What a longer text answers, every text that is cut at or behind the answer answers too. -/
theorem vS_cut (t : Nat → Int) (n m : Nat) : ∀ k i (r : Nat), n ≤ i + k → vS t n i = r → r ≤ m → vS t m i = r := by
  intro k
  induction k with
  | zero => intro i r h e; rw [vS_end (by omega)] at e; omega
  | succ k ih =>
    intro i r h e hm
    by_cases hi : n ≤ i
    · rw [vS_end hi] at e; omega
    · have hr : i < r := by
        rcases vS_range t n _ i (Nat.le_add_left n i) with h | ⟨r', a, b, c, d⟩ <;> omega
      rw [vS_eq (by omega)] at e
      rw [vS_eq (by omega)]
      by_cases h1 : t i = 34
      · rw [if_pos h1] at e ⊢; exact e
      · rw [if_neg h1] at e ⊢
        by_cases h2 : t i < 32
        · rw [if_pos h2] at e; omega
        · rw [if_neg h2] at e ⊢
          by_cases h3 : t i = 92
          · rw [if_pos h3] at e ⊢
            by_cases h4 : n ≤ i + 1
            · rw [if_pos h4] at e; omega
            · rw [if_neg h4] at e
              by_cases h5 : escB (t (i + 1)) = true
              · rw [if_pos h5] at e
                have hr : i + 2 < r := by
                  rcases vS_range t n _ (i + 2) (Nat.le_add_left n _) with h | ⟨r', a, b, c, d⟩ <;> omega
                rw [if_neg (by omega), if_pos h5]
                exact ih _ _ (by omega) e hm
              · rw [if_neg h5] at e
                by_cases h6 : t (i + 1) = 117
                · rw [if_pos h6] at e
                  split at e
                  · rename_i hh
                    have hr : i + 6 < r := by
                      rcases vS_range t n _ (i + 6) (Nat.le_add_left n _) with h | ⟨r', a, b, c, d⟩ <;> omega
                    rw [if_neg (by omega), if_neg h5, if_pos h6, if_pos ⟨by omega, hh.2⟩]
                    exact ih _ _ (by omega) e hm
                  · omega
                · rw [if_neg h6] at e; omega
          · rw [if_neg h3] at e ⊢
            exact ih _ _ (by omega) e hm

/-- The law 'the end is tight', with no Go in sight. -/
theorem tight_fail (t : Nat → Int) (n m i : Nat) (h : vS t n i = -1) (hm : m ≤ n) : vS t m i = -1 := by
  rcases vS_range t m _ i (Nat.le_add_left m i) with h' | ⟨r, a, b, c, d⟩
  · exact h'
  · have := vS_cut t m n _ i r (Nat.le_add_left m i) a (by omega)
    omega
theorem tight_short (t : Nat → Int) (n i r : Nat) (h : vS t n i = r) : vS t (r - 1) i = -1 := by
  rcases vS_range t (r - 1) _ i (Nat.le_add_left _ i) with h' | ⟨r', a, b, c, d⟩
  · exact h'
  · rcases vS_range t n _ i (Nat.le_add_left n i) with h'' | ⟨r2, a2, b2, c2, d2⟩
    · omega
    · have := vS_cut t (r - 1) n _ i r' (Nat.le_add_left _ i) a (by omega)
      omega
theorem tight_cut (t : Nat → Int) (n i r : Nat) (h : vS t n i = r) : vS t r i = r := vS_cut t n r _ i r (Nat.le_add_left n i) h (Nat.le_refl _)

end Go.Proofs.Qxb6603099a.Pl

import Derived.Test.Qxb6603099aPlainNum
namespace Go.Proofs.Qxb6603099a.Pl

/-- digitsEnd on a text that is cut at or behind the answer, and shifted by d. -/
theorem dE_sh (t : Nat → Int) (n m d : Nat) (hm : d + m ≤ n) : ∀ k i, n ≤ d + i + k → dE t n (d + i) ≤ d + m → d + dE (fun x => t (d + x)) m i = dE t n (d + i) := by
  intro k
  induction k with
  | zero =>
    intro i h h2
    have : m ≤ i := by omega
    rw [dE_end (show n ≤ d + i by omega), dE_end this]
  | succ k ih =>
    intro i h h2
    have hg := dE_ge t n (d + i)
    by_cases hi : m ≤ i
    · rw [dE_end hi]; omega
    · rw [dE_eq (show i < m by omega), dE_eq (show d + i < n by omega)]
      by_cases hd : dgB (t (d + i)) = true
      · rw [if_pos hd, if_pos hd]
        have e := dE_step t n (d + i) (by omega) hd
        exact ih (i + 1) (by omega) (by rw [show d + (i + 1) = d + i + 1 by omega, ← e]; exact h2)
      · rw [if_neg hd, if_neg hd]
theorem dE_sh' (t : Nat → Int) (n m d i : Nat) (hm : d + m ≤ n) (h : dE t n (d + i) ≤ d + m) : dE (fun x => t (d + x)) m i = dE t n (d + i) - d := by
  have := dE_sh t n m d hm n i (by omega) h; omega

theorem nDig_some {t : Nat → Int} {n i r : Nat} (h : nDig t n i = some r) : i < n ∧ dgB (t i) = true ∧ dE t n i = r ∧ i < r ∧ r ≤ n := by
  unfold nDig at h
  split at h
  · rename_i hh
    simp at h
    have := dE_ge t n (i + 1)
    have e := dE_step t n i hh.1 hh.2
    have := dE_len t n i (by omega)
    exact ⟨hh.1, hh.2, h, by omega, by omega⟩
  · simp at h
theorem nSgn_le (t : Nat → Int) (n i : Nat) : i ≤ nSgn t n i ∧ nSgn t n i ≤ i + 1 := by
  unfold nSgn; split <;> omega
theorem nExp_some {t : Nat → Int} {n i r : Nat} (h : nExp t n i = some r) (hi : i ≤ n) : i ≤ r ∧ r ≤ n := by
  unfold nExp at h
  split at h
  · have := nDig_some h
    have := nSgn_le t n (i + 1)
    omega
  · simp at h; omega
theorem nFrac_some {t : Nat → Int} {n i r : Nat} (h : nFrac t n i = some r) (hi : i ≤ n) : i ≤ r ∧ r ≤ n := by
  unfold nFrac at h
  split at h
  · split at h
    · rename_i h1 h2
      simp at h
      have := dE_ge t n (i + 1)
      have := dE_len t n (i + 1) (by omega)
      omega
    · simp at h
  · simp at h; omega
theorem nInt_some {t : Nat → Int} {n i r : Nat} (h : nInt t n i = some r) : i < r ∧ r ≤ n := by
  unfold nInt at h
  split at h
  · simp at h; omega
  · split at h
    · rename_i h1 h2
      simp at h
      have e := dE_step t n i h2.1 (by rw [dgB_iff]; omega)
      have := dE_ge t n (i + 1)
      have := dE_len t n i (by omega)
      omega
    · simp at h
/-- Each part on a text cut at or behind its answer, and shifted. -/
theorem nDig_sh {t : Nat → Int} {n m d i r : Nat} (h : nDig t n (d + i) = some r) (hm : d + m ≤ n) (hr : r ≤ d + m) : nDig (fun x => t (d + x)) m i = some (r - d) := by
  obtain ⟨a, b, c, e, f⟩ := nDig_some h
  unfold nDig
  rw [if_pos ⟨by omega, b⟩, dE_sh' t n m d i hm (by omega), c]
theorem nSgn_sh {t : Nat → Int} {n m d i : Nat} (hm : d + m ≤ n) (hr : nSgn t n (d + i) < d + m) : nSgn (fun x => t (d + x)) m i = nSgn t n (d + i) - d := by
  have h := nSgn_le t n (d + i)
  unfold nSgn at *
  by_cases hc : d + i < n ∧ (t (d + i) = 43 ∨ t (d + i) = 45)
  · rw [if_pos hc] at *
    rw [if_pos ⟨by omega, hc.2⟩]; omega
  · rw [if_neg hc] at *
    rw [if_neg (fun h => hc ⟨by omega, h.2⟩)]; omega
theorem nExp_sh {t : Nat → Int} {n m d i r : Nat} (h : nExp t n (d + i) = some r) (hm : d + m ≤ n) (hr : r ≤ d + m) (hi : d + i ≤ n) (he : r = d + m) : nExp (fun x => t (d + x)) m i = some (r - d) := by
  have hb := nExp_some h hi
  unfold nExp at h ⊢
  by_cases hc : d + i < n ∧ (t (d + i) = 101 ∨ t (d + i) = 69)
  · rw [if_pos hc] at h
    have hd := nDig_some h
    have hs := nSgn_le t n (d + i + 1)
    rw [if_pos ⟨by omega, hc.2⟩]
    have e : nSgn (fun x => t (d + x)) m (i + 1) = nSgn t n (d + (i + 1)) - d := nSgn_sh hm (by show nSgn t n (d + i + 1) < _; omega)
    have e' : d + (nSgn t n (d + i + 1) - d) = nSgn t n (d + i + 1) := by omega
    rw [e]
    exact nDig_sh (i := nSgn t n (d + i + 1) - d) (by rw [e']; exact h) hm hr
  · rw [if_neg hc] at h
    simp at h
    rw [if_neg (by omega)]
    simp; omega
theorem nFrac_sh {t : Nat → Int} {n m d i r : Nat} (h : nFrac t n (d + i) = some r) (hm : d + m ≤ n) (hr : r ≤ d + m) (hi : d + i ≤ n) : nFrac (fun x => t (d + x)) m i = some (r - d) := by
  unfold nFrac at h ⊢
  by_cases hc : d + i < n ∧ t (d + i) = 46
  · rw [if_pos hc] at h
    split at h
    · rename_i h2
      simp at h
      have := dE_ge t n (d + i + 1)
      have e := dE_step t n (d + i + 1) h2.1 h2.2
      have := dE_ge t n (d + i + 1 + 1)
      rw [if_pos ⟨by omega, hc.2⟩, if_pos ⟨by omega, h2.2⟩, dE_sh' t n m d (i + 1) hm (by show dE t n (d + i + 1) ≤ _; omega)]
      show some (dE t n (d + i + 1) - d) = _
      rw [h]
    · simp at h
  · rw [if_neg hc] at h
    simp at h
    rw [if_neg (fun h => hc ⟨by omega, h.2⟩)]
    simp; omega
theorem nInt_sh {t : Nat → Int} {n m d i r : Nat} (h : nInt t n (d + i) = some r) (hm : d + m ≤ n) (hr : r ≤ d + m) : nInt (fun x => t (d + x)) m i = some (r - d) := by
  have hb := nInt_some h
  unfold nInt at h ⊢
  by_cases hc : d + i < n ∧ t (d + i) = 48
  · rw [if_pos hc] at h
    simp at h
    rw [if_pos ⟨by omega, hc.2⟩]; simp; omega
  · rw [if_neg hc] at h
    rw [if_neg (fun h => hc ⟨by omega, h.2⟩)]
    split at h
    · rename_i h2
      simp at h
      rw [if_pos ⟨by omega, h2.2⟩, dE_sh' t n m d i hm (by omega), h]
    · simp at h
theorem nNeg_sh (t : Nat → Int) (d i : Nat) : d + nNeg (fun x => t (d + x)) i = nNeg t (d + i) := by
  unfold nNeg; split <;> omega
/-- 'Cutting the text at the answer, and at its own start, leaves the answer': d is the shift, d + i the number's first byte. -/
theorem nO_sh {t : Nat → Int} {n d i r : Nat} (h : nO t n (d + i) = some r) (hd : d ≤ r) : d + i < r ∧ r ≤ n ∧ nO (fun x => t (d + x)) (r - d) i = some (r - d) := by
  unfold nO at h
  cases ha : nInt t n (nNeg t (d + i)) with
  | none => rw [ha] at h; simp at h
  | some a =>
    rw [ha] at h
    simp only [Option.bind_some] at h
    cases hb : nFrac t n a with
    | none => rw [hb] at h; simp at h
    | some b =>
      rw [hb] at h
      simp only [Option.bind_some] at h
      have h1 := nInt_some ha
      have h2 := nFrac_some hb h1.2
      have h3 := nExp_some h h2.2
      have h0 : d + i ≤ nNeg t (d + i) := by unfold nNeg; split <;> omega
      have e0 := nNeg_sh t d i
      refine ⟨by omega, by omega, ?_⟩
      unfold nO
      have ea : nInt (fun x => t (d + x)) (r - d) (nNeg (fun x => t (d + x)) i) = some (a - d) := nInt_sh (n := n) (by rw [e0]; exact ha) (by omega) (by omega)
      have eb : nFrac (fun x => t (d + x)) (r - d) (a - d) = some (b - d) := nFrac_sh (n := n) (by rw [show d + (a - d) = a by omega]; exact hb) (by omega) (by omega) (by omega)
      have ec : nExp (fun x => t (d + x)) (r - d) (b - d) = some (r - d) := nExp_sh (n := n) (by rw [show d + (b - d) = b by omega]; exact h) (by omega) (by omega) (by omega) (by omega)
      rw [ea]
      simp only [Option.bind_some]
      rw [eb]
      simp only [Option.bind_some]
      exact ec
theorem nO_cut {t : Nat → Int} {n i r : Nat} (h : nO t n i = some r) : i < r ∧ r ≤ n ∧ nO t r i = some r := by
  have := nO_sh (d := 0) (t := t) (n := n) (i := i) (by simpa using h) (by omega)
  simpa using this
theorem nO_span {t : Nat → Int} {n i r : Nat} (h : nO t n i = some r) : nO (fun x => t (i + x)) (r - i) 0 = some (r - i) := by
  have h' := (nO_cut h).1
  exact (nO_sh (d := i) (i := 0) (by simpa using h) (by omega)).2.2
/-- A number begins with a minus or a digit. -/
theorem nO_head {t : Nat → Int} {n i r : Nat} (h : nO t n i = some r) : t i = 45 ∨ (48 ≤ t i ∧ t i ≤ 57) := by
  unfold nO at h
  cases ha : nInt t n (nNeg t i) with
  | none => rw [ha] at h; simp at h
  | some a =>
    unfold nInt nNeg at ha
    by_cases h5 : t i = 45
    · exact .inl h5
    · simp only [h5, if_false] at ha
      split at ha
      · right; omega
      · split at ha
        · right; omega
        · simp at ha

end Go.Proofs.Qxb6603099a.Pl

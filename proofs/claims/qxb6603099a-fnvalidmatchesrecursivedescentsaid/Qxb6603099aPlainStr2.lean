import Derived.Test.Qxb6603099aPlainStr
namespace Go.Proofs.Qxb6603099a.Pl

/-- The model's first loop: the first later quote behind an even run of backslashes; f = n - p rounds are left. -/
def fcF (t : Nat → Int) : Nat → Nat → Nat → Option Nat
  | 0, _, _ => none
  | f + 1, p, run => if t p = 34 ∧ run % 2 = 0 then some p else if t p = 92 then fcF t f (p + 1) (run + 1) else fcF t f (p + 1) 0
def fc (t : Nat → Int) (n p run : Nat) : Option Nat := fcF t (n - p) p run

theorem fc_end {t : Nat → Int} {n p run : Nat} (h : n ≤ p) : fc t n p run = none := by
  unfold fc; rw [show n - p = 0 by omega]; rfl
theorem fc_eq {t : Nat → Int} {n p run : Nat} (h : p < n) : fc t n p run =
    if t p = 34 ∧ run % 2 = 0 then some p else if t p = 92 then fc t n (p + 1) (run + 1) else fc t n (p + 1) 0 := by
  unfold fc; rw [show n - p = (n - (p + 1)) + 1 by omega]; rfl
theorem fc_par (t : Nat → Int) : ∀ f p a b, a % 2 = b % 2 → fcF t f p a = fcF t f p b := by
  intro f
  induction f with
  | zero => intro p a b _; rfl
  | succ f ih =>
    intro p a b h
    simp only [fcF]
    rw [h, ih (p + 1) (a + 1) (b + 1) (by omega)]
theorem fc_le (t : Nat → Int) : ∀ f p a j, fcF t f p a = some j → p ≤ j ∧ j < p + f := by
  intro f
  induction f with
  | zero => intro p a j h; simp [fcF] at h
  | succ f ih =>
    intro p a j h
    simp only [fcF] at h
    split at h
    · simp at h; omega
    · split at h <;> (have := ih _ _ _ h; omega)

/-- The model's second loop: is there a control character among the f bytes from p on? -/
def ctlF (t : Nat → Int) : Nat → Nat → Bool
  | 0, _ => false
  | f + 1, p => if t p < 32 then true else ctlF t f (p + 1)
def ctl (t : Nat → Int) (j p : Nat) : Bool := ctlF t (j - p) p
theorem ctl_end {t : Nat → Int} {j p : Nat} (h : j ≤ p) : ctl t j p = false := by
  unfold ctl; rw [show j - p = 0 by omega]; rfl
theorem ctl_eq {t : Nat → Int} {j p : Nat} (h : p < j) : ctl t j p = if t p < 32 then true else ctl t j (p + 1) := by
  unfold ctl; rw [show j - p = (j - (p + 1)) + 1 by omega]; rfl

/-- The end of the run of backslashes from q on, at most j. -/
def bsF (t : Nat → Int) : Nat → Nat → Nat
  | 0, q => q
  | f + 1, q => if t q = 92 then bsF t f (q + 1) else q
def bs (t : Nat → Int) (j q : Nat) : Nat := bsF t (j - q) q
theorem bs_end {t : Nat → Int} {j p : Nat} (h : j ≤ p) : bs t j p = p := by
  unfold bs; rw [show j - p = 0 by omega]; rfl
theorem bs_eq {t : Nat → Int} {j p : Nat} (h : p < j) : bs t j p = if t p = 92 then bs t j (p + 1) else p := by
  unfold bs; rw [show j - p = (j - (p + 1)) + 1 by omega]; rfl
theorem bsF_le (t : Nat → Int) : ∀ f q, q ≤ bsF t f q ∧ bsF t f q ≤ q + f := by
  intro f
  induction f with
  | zero => intro q; simp [bsF]
  | succ f ih =>
    intro q
    simp only [bsF]
    split
    · have := ih (q + 1); omega
    · omega
theorem bs_le (t : Nat → Int) (j q : Nat) : q ≤ bs t j q := (bsF_le t _ _).1
theorem bs_le' (t : Nat → Int) (j q : Nat) (h : q ≤ j) : bs t j q ≤ j := by have := (bsF_le t (j - q) q).2; unfold bs; omega

/-- The escapes that the model takes behind an odd run. -/
def es2B (c : Int) : Bool := c == 34 || c == 47 || c == 98 || c == 102 || c == 110 || c == 114 || c == 116

/-- The model's third loop. -/
def ckF (t : Nat → Int) (j : Nat) : Nat → Nat → Bool
  | 0, _ => true
  | f + 1, p =>
    if j ≤ p then true
    else if t p ≠ 92 then ckF t j f (p + 1)
    else if (bs t j p - p) % 2 = 0 then ckF t j f (bs t j p)
    else if j ≤ bs t j p then false
    else if es2B (t (bs t j p)) = true then ckF t j f (bs t j p + 1)
    else if t (bs t j p) = 117 then
      if bs t j p + 4 < j ∧ hexB (t (bs t j p + 1)) = true ∧ hexB (t (bs t j p + 2)) = true ∧ hexB (t (bs t j p + 3)) = true ∧ hexB (t (bs t j p + 4)) = true then ckF t j f (bs t j p + 5) else false
    else false
theorem bs_lt {t : Nat → Int} {j p : Nat} (h : p < j) (h1 : t p = 92) : p < bs t j p := by
  rw [bs_eq h, if_pos h1]; exact bs_le t j (p + 1)
theorem ckF_fuel (t : Nat → Int) (j : Nat) : ∀ f g p, j ≤ p + f → j ≤ p + g → ckF t j f p = ckF t j g p := by
  intro f
  induction f with
  | zero =>
    intro g p h1 h2
    cases g with
    | zero => rfl
    | succ g => simp only [ckF]; rw [if_pos (by omega)]
  | succ f ih =>
    intro g p h1 h2
    cases g with
    | zero => simp only [ckF]; rw [if_pos (by omega)]
    | succ g =>
      simp only [ckF]
      by_cases h : j ≤ p
      · rw [if_pos h, if_pos h]
      · rw [if_neg h, if_neg h]
        by_cases h3 : t p ≠ 92
        · rw [if_pos h3, if_pos h3, ih g (p + 1) (by omega) (by omega)]
        · rw [if_neg h3, if_neg h3]
          have hb := bs_lt (j := j) (p := p) (by omega) (by simpa using h3)
          rw [ih g (bs t j p) (by omega) (by omega), ih g (bs t j p + 1) (by omega) (by omega), ih g (bs t j p + 5) (by omega) (by omega)]
def ck (t : Nat → Int) (j p : Nat) : Bool := ckF t j (j + 1 - p) p
theorem ck_of (t : Nat → Int) (j f p : Nat) (h : j ≤ p + f) : ckF t j f p = ck t j p := ckF_fuel t j _ _ _ h (by omega)
theorem ck_end {t : Nat → Int} {j p : Nat} (h : j ≤ p) : ck t j p = true := by
  rw [← ck_of t j 1 p (by omega)]; simp only [ckF]; rw [if_pos h]
theorem ck_eq {t : Nat → Int} {j p : Nat} (h : p < j) : ck t j p =
    if t p ≠ 92 then ck t j (p + 1)
    else if (bs t j p - p) % 2 = 0 then ck t j (bs t j p)
    else if j ≤ bs t j p then false
    else if es2B (t (bs t j p)) = true then ck t j (bs t j p + 1)
    else if t (bs t j p) = 117 then
      if bs t j p + 4 < j ∧ hexB (t (bs t j p + 1)) = true ∧ hexB (t (bs t j p + 2)) = true ∧ hexB (t (bs t j p + 3)) = true ∧ hexB (t (bs t j p + 4)) = true then ck t j (bs t j p + 5) else false
    else false := by
  rw [← ck_of t j (j + 1) p (by omega)]
  have hb := bs_le t j p
  simp only [ckF]
  rw [if_neg (by omega), ck_of _ _ _ _ (by omega), ck_of _ _ _ _ (by omega), ck_of _ _ _ _ (by omega), ck_of _ _ _ _ (by omega)]

/-- What the model answers once its first loop has answered o, from the token's start p on. -/
def smR (t : Nat → Int) (p : Nat) : Option Nat → Int
  | none => -1
  | some j => if ctl t j p = true then -1 else if ck t j p = true then (j : Int) + 1 else -1
/-- zzStringEndModelB1, from the byte behind the opening quote on. -/
def sM (t : Nat → Int) (n p : Nat) : Int := smR t p (fc t n p 0)

theorem hex_not {c : Int} (h : hexB c = true) : c ≠ 34 ∧ c ≠ 92 ∧ 32 ≤ c := by
  simp [hexB] at h; omega
theorem es2_not {c : Int} (h : escB c = true) (h' : c ≠ 92) : es2B c = true := by
  simp [escB, es2B] at *; omega
theorem esc_of {c : Int} (h : es2B c = true) : escB c = true := by
  simp [escB, es2B] at *; omega
theorem esc_big {c : Int} (h : escB c = true) : 32 ≤ c := by
  simp [escB] at h; omega

/-- A plain byte (no quote, no backslash, no control character) is passed over by the first loop and by the second. -/
theorem fc_plain {t : Nat → Int} {n p : Nat} (hp : p < n) (h1 : t p ≠ 34) (h2 : t p ≠ 92) (r : Nat) : fc t n p r = fc t n (p + 1) 0 := by
  rw [fc_eq hp, if_neg (by simp [h1]), if_neg h2]
theorem ctl_plain {t : Nat → Int} {j p : Nat} (hp : p < j) (h : 32 ≤ t p) : ctl t j p = ctl t j (p + 1) := by
  rw [ctl_eq hp, if_neg (by omega)]
theorem fc_some {t : Nat → Int} {n p r j : Nat} (h : fc t n p r = some j) : p ≤ j ∧ j < n := by
  have := fc_le t _ _ _ _ h; omega

theorem sM_eq_vS (t : Nat → Int) (n : Nat) : ∀ k p, n ≤ p + k → vS t n p = sM t n p := by
  intro k
  induction k with
  | zero => intro p h; rw [vS_end (by omega)]; unfold sM; rw [fc_end (by omega)]; rfl
  | succ k ih =>
    intro p h
    by_cases hp : n ≤ p
    · rw [vS_end hp]; unfold sM; rw [fc_end hp]; rfl
    · have hp : p < n := by omega
      rw [vS_eq hp]
      unfold sM
      by_cases h1 : t p = 34
      · rw [if_pos h1, fc_eq hp, if_pos ⟨h1, rfl⟩]
        simp only [smR]
        rw [ctl_end (Nat.le_refl _), ck_end (Nat.le_refl _)]; rfl
      · rw [if_neg h1]
        by_cases h2 : t p < 32
        · rw [if_pos h2, fc_plain hp h1 (by omega)]
          cases hj : fc t n (p + 1) 0 with
          | none => rfl
          | some j =>
            have := fc_some hj
            simp only [smR]
            rw [ctl_eq (by omega), if_pos h2]; rfl
        · rw [if_neg h2]
          by_cases h3 : t p = 92
          · have f0 : fc t n p 0 = fc t n (p + 1) (0 + 1) := by rw [fc_eq hp, if_neg (by omega), if_pos h3]
            rw [if_pos h3, f0]
            by_cases h4 : n ≤ p + 1
            · rw [if_pos h4, fc_end h4]; rfl
            · rw [if_neg h4]
              have hp1 : p + 1 < n := by omega
              by_cases h92 : t (p + 1) = 92
              · have e92 : escB (t (p + 1)) = true := by rw [h92]; rfl
                have e0 : fc t n (p + 1) (0 + 1) = fc t n (p + 2) 0 := by
                  rw [fc_eq hp1, if_neg (by omega), if_pos h92]; exact fc_par t _ _ _ _ rfl
                rw [if_pos e92, e0, ih (p + 2) (by omega)]
                unfold sM
                cases hj : fc t n (p + 2) 0 with
                | none => rfl
                | some j =>
                  have hb := fc_some hj
                  simp only [smR]
                  rw [ctl_plain (p := p) (by omega) (by omega), ctl_plain (p := p + 1) (by omega) (by omega)]
                  have ec : ck t j p = ck t j (p + 2) := by
                    have b0 : bs t j p = bs t j (p + 2) := by
                      rw [bs_eq (by omega), if_pos h3, bs_eq (by omega), if_pos h92]
                    by_cases hb2 : j ≤ p + 2
                    · rw [ck_eq (by omega), if_neg (by simpa using h3), b0, bs_end hb2, if_pos (by omega)]
                    · by_cases h5 : t (p + 2) = 92
                      · rw [ck_eq (p := p) (by omega), if_neg (by simpa using h3), b0, ck_eq (p := p + 2) (by omega), if_neg (show ¬ (t (p + 2) ≠ 92) by simpa using h5)]
                        have e2 : (bs t j (p + 2) - p) % 2 = (bs t j (p + 2) - (p + 2)) % 2 := by have := bs_le t j (p + 2); omega
                        rw [e2]
                      · have : bs t j (p + 2) = p + 2 := by rw [bs_eq (by omega), if_neg h5]
                        rw [ck_eq (p := p) (by omega), if_neg (by simpa using h3), b0, this, if_pos (by omega)]
                  rw [ec]
              · -- the run is one long
                have b1 : ∀ j, p + 1 < j → bs t j p = p + 1 := fun j hj => by
                  rw [bs_eq (by omega), if_pos h3, bs_eq (by omega), if_neg h92]
                have f1 : fc t n (p + 1) (0 + 1) = fc t n (p + 2) 0 := by
                  rw [fc_eq hp1, if_neg (by omega), if_neg h92]
                rw [f1]
                have ckq : ∀ j, p + 1 < j → ck t j p = if es2B (t (p + 1)) = true then ck t j (p + 2) else if t (p + 1) = 117 then (if p + 5 < j ∧ hexB (t (p + 2)) = true ∧ hexB (t (p + 3)) = true ∧ hexB (t (p + 4)) = true ∧ hexB (t (p + 5)) = true then ck t j (p + 6) else false) else false := fun j hj => by
                  rw [ck_eq (by omega), if_neg (by simpa using h3), b1 j hj, if_neg (by omega), if_neg (by omega)]
                by_cases h5 : escB (t (p + 1)) = true
                · rw [if_pos h5, ih (p + 2) (by omega)]
                  unfold sM
                  cases hj : fc t n (p + 2) 0 with
                  | none => rfl
                  | some j =>
                    have hb := fc_some hj
                    have := esc_big h5
                    simp only [smR]
                    rw [ctl_plain (p := p) (by omega) (by omega), ctl_plain (p := p + 1) (by omega) (by omega), ckq j (by omega), if_pos (es2_not h5 h92)]
                · rw [if_neg h5]
                  have n5 : ¬ es2B (t (p + 1)) = true := fun h => h5 (esc_of h)
                  by_cases h6 : t (p + 1) = 117
                  · rw [if_pos h6]
                    by_cases h7 : p + 5 < n ∧ hexB (t (p + 2)) = true ∧ hexB (t (p + 3)) = true ∧ hexB (t (p + 4)) = true ∧ hexB (t (p + 5)) = true
                    · rw [if_pos h7, ih (p + 6) (by omega)]
                      obtain ⟨h70, h72, h73, h74, h75⟩ := h7
                      have g2 := hex_not h72
                      have g3 := hex_not h73
                      have g4 := hex_not h74
                      have g5 := hex_not h75
                      have f2 : fc t n (p + 2) 0 = fc t n (p + 6) 0 := by
                        rw [fc_plain (p := p + 2) (by omega) g2.1 g2.2.1, fc_plain (p := p + 3) (by omega) g3.1 g3.2.1, fc_plain (p := p + 4) (by omega) g4.1 g4.2.1, fc_plain (p := p + 5) (by omega) g5.1 g5.2.1]
                      rw [f2]
                      unfold sM
                      cases hj : fc t n (p + 6) 0 with
                      | none => rfl
                      | some j =>
                        have hb := fc_some hj
                        simp only [smR]
                        rw [ctl_plain (p := p) (by omega) (by omega), ctl_plain (p := p + 1) (by omega) (by omega), ctl_plain (p := p + 2) (by omega) g2.2.2, ctl_plain (p := p + 3) (by omega) g3.2.2, ctl_plain (p := p + 4) (by omega) g4.2.2, ctl_plain (p := p + 5) (by omega) g5.2.2, show ck t j p = ck t j (p + 6) by rw [ckq j (by omega), if_neg n5, if_pos h6, if_pos ⟨by omega, h72, h73, h74, h75⟩]]
                    · rw [if_neg h7]
                      cases hj : fc t n (p + 2) 0 with
                      | none => rfl
                      | some j =>
                        have hb := fc_some hj
                        simp only [smR]
                        rw [show ck t j p = false by rw [ckq j (by omega), if_neg n5, if_pos h6, if_neg (fun h => h7 ⟨by omega, h.2⟩)]]
                        simp
                  · rw [if_neg h6]
                    cases hj : fc t n (p + 2) 0 with
                    | none => rfl
                    | some j =>
                      have hb := fc_some hj
                      simp only [smR]
                      rw [ckq j (by omega), if_neg n5, if_neg h6]
                      simp
          · rw [if_neg h3, fc_plain hp h1 h3, ih (p + 1) (by omega)]
            unfold sM
            cases hj : fc t n (p + 1) 0 with
            | none => rfl
            | some j =>
              have hb := fc_some hj
              simp only [smR]
              rw [ctl_plain (p := p) (by omega) (by omega), ck_eq (p := p) (by omega), if_pos h3]

end Go.Proofs.Qxb6603099a.Pl

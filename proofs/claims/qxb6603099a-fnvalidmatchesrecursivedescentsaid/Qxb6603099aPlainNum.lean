namespace Go.Proofs.Qxb6603099a.Pl

def dgB (c : Int) : Bool := decide (48 ≤ c) && decide (c ≤ 57)
theorem dgB_iff {c : Int} : dgB c = true ↔ 48 ≤ c ∧ c ≤ 57 := by simp [dgB]

/-- digitsEnd: f bytes are left from i on. -/
def deF (t : Nat → Int) : Nat → Nat → Nat
  | 0, i => i
  | f + 1, i => if dgB (t i) = true then deF t f (i + 1) else i
def dE (t : Nat → Int) (n i : Nat) : Nat := deF t (n - i) i
theorem dE_end {t : Nat → Int} {n i : Nat} (h : n ≤ i) : dE t n i = i := by
  unfold dE; rw [show n - i = 0 by omega]; rfl
theorem dE_eq {t : Nat → Int} {n i : Nat} (h : i < n) : dE t n i = if dgB (t i) = true then dE t n (i + 1) else i := by
  unfold dE; rw [show n - i = (n - (i + 1)) + 1 by omega]; rfl
theorem dE_le (t : Nat → Int) (n : Nat) : ∀ k i, n ≤ i + k → i ≤ dE t n i ∧ (i ≤ n → dE t n i ≤ n) ∧ (dE t n i < n → dgB (t (dE t n i)) = false) := by
  intro k
  induction k with
  | zero => intro i h; rw [dE_end (by omega)]; exact ⟨by omega, by omega, by omega⟩
  | succ k ih =>
    intro i h
    by_cases hi : n ≤ i
    · rw [dE_end (by omega)]; exact ⟨by omega, by omega, by omega⟩
    · rw [dE_eq (by omega)]
      by_cases hd : dgB (t i) = true
      · rw [if_pos hd]
        have := ih (i + 1) (by omega)
        exact ⟨by omega, fun _ => this.2.1 (by omega), this.2.2⟩
      · rw [if_neg hd]
        exact ⟨by omega, by omega, fun _ => by simpa using hd⟩
theorem dE_ge (t : Nat → Int) (n i : Nat) : i ≤ dE t n i := (dE_le t n _ i (Nat.le_add_left n i)).1
theorem dE_len (t : Nat → Int) (n i : Nat) (h : i ≤ n) : dE t n i ≤ n := (dE_le t n _ i (Nat.le_add_left n i)).2.1 h
theorem dE_stop (t : Nat → Int) (n i : Nat) (h : dE t n i < n) : dgB (t (dE t n i)) = false := (dE_le t n _ i (Nat.le_add_left n i)).2.2 h
theorem dE_step (t : Nat → Int) (n i : Nat) (h : i < n) (hd : dgB (t i) = true) : dE t n i = dE t n (i + 1) := by rw [dE_eq h, if_pos hd]

def encN : Option Nat → Int
  | none => -1
  | some p => (p : Int)

/-- numberEnd's three parts. -/
def nInt (t : Nat → Int) (n i : Nat) : Option Nat :=
  if i < n ∧ t i = 48 then some (i + 1) else if i < n ∧ 49 ≤ t i ∧ t i ≤ 57 then some (dE t n i) else none
def nFrac (t : Nat → Int) (n i : Nat) : Option Nat :=
  if i < n ∧ t i = 46 then (if i + 1 < n ∧ dgB (t (i + 1)) = true then some (dE t n (i + 1)) else none) else some i
def nSgn (t : Nat → Int) (n i : Nat) : Nat := if i < n ∧ (t i = 43 ∨ t i = 45) then i + 1 else i
def nDig (t : Nat → Int) (n i : Nat) : Option Nat := if i < n ∧ dgB (t i) = true then some (dE t n i) else none
def nExp (t : Nat → Int) (n i : Nat) : Option Nat :=
  if i < n ∧ (t i = 101 ∨ t i = 69) then nDig t n (nSgn t n (i + 1)) else some i
def nNeg (t : Nat → Int) (i : Nat) : Nat := if t i = 45 then i + 1 else i
def nO (t : Nat → Int) (n i : Nat) : Option Nat := (nInt t n (nNeg t i)).bind fun a => (nFrac t n a).bind fun b => nExp t n b
def nE (t : Nat → Int) (n i : Nat) : Int := encN (nO t n i)

/-- The automaton. -/
def nsZ (s c : Int) : Int :=
  if s = 0 then (if c = 45 then 1 else if c = 48 then 2 else if dgB c = true then 3 else -1)
  else if s = 1 then (if c = 48 then 2 else if dgB c = true then 3 else -1)
  else if s = 2 then (if c = 46 then 4 else if c = 101 ∨ c = 69 then 6 else -1)
  else if s = 3 then (if dgB c = true then 3 else if c = 46 then 4 else if c = 101 ∨ c = 69 then 6 else -1)
  else if s = 4 then (if dgB c = true then 5 else -1)
  else if s = 5 then (if dgB c = true then 5 else if c = 101 ∨ c = 69 then 6 else -1)
  else if s = 6 then (if c = 43 ∨ c = 45 then 7 else if dgB c = true then 8 else -1)
  else if s = 7 then (if dgB c = true then 8 else -1)
  else if s = 8 then (if dgB c = true then 8 else -1)
  else -1
def acB (s : Int) : Bool := s == 2 || s == 3 || s == 5 || s == 8
def amF (t : Nat → Int) : Nat → Int → Nat → Int
  | 0, s, p => if acB s = true then (p : Int) else -1
  | f + 1, s, p => if nsZ s (t p) < 0 then (if acB s = true then (p : Int) else -1) else amF t f (nsZ s (t p)) (p + 1)
def am (t : Nat → Int) (n : Nat) (s : Int) (p : Nat) : Int := amF t (n - p) s p
theorem am_end {t : Nat → Int} {n : Nat} {s : Int} {p : Nat} (h : n ≤ p) : am t n s p = if acB s = true then (p : Int) else -1 := by
  unfold am; rw [show n - p = 0 by omega]; rfl
theorem am_eq {t : Nat → Int} {n : Nat} {s : Int} {p : Nat} (h : p < n) :
    am t n s p = if nsZ s (t p) < 0 then (if acB s = true then (p : Int) else -1) else am t n (nsZ s (t p)) (p + 1) := by
  unfold am; rw [show n - p = (n - (p + 1)) + 1 by omega]; rfl
theorem am_go {t : Nat → Int} {n : Nat} {s u : Int} {p : Nat} (h : p < n) (e : nsZ s (t p) = u) (hu : 0 ≤ u) : am t n s p = am t n u (p + 1) := by
  rw [am_eq h, e, if_neg (by omega)]
theorem am_stop {t : Nat → Int} {n : Nat} {s : Int} {p : Nat} (h : p < n → nsZ s (t p) = -1) : am t n s p = if acB s = true then (p : Int) else -1 := by
  by_cases hp : n ≤ p
  · exact am_end hp
  · rw [am_eq (by omega), h (by omega), if_pos (by omega)]
theorem am_digs (t : Nat → Int) (n : Nat) (s : Int) (hs : ∀ c, dgB c = true → nsZ s c = s) (h0 : 0 ≤ s) : ∀ k p, n ≤ p + k → am t n s p = am t n s (dE t n p) := by
  intro k
  induction k with
  | zero => intro p h; rw [dE_end (by omega)]
  | succ k ih =>
    intro p h
    by_cases hp : n ≤ p
    · rw [dE_end hp]
    · by_cases hd : dgB (t p) = true
      · rw [am_go (by omega) (hs _ hd) h0, dE_step t n p (by omega) hd]
        exact ih (p + 1) (by omega)
      · rw [dE_eq (by omega), if_neg hd]
theorem ns_dig (s c : Int) (h : dgB c = true) (hs : s = 3 ∨ s = 5 ∨ s = 8) : nsZ s c = s := by
  rcases hs with rfl | rfl | rfl <;> simp [nsZ, h]
theorem am8 (t : Nat → Int) (n p : Nat) : am t n 8 p = (dE t n p : Int) := by
  rw [am_digs t n 8 (fun c h => ns_dig 8 c h (by simp)) (by omega) _ p (Nat.le_add_left n p)]
  rw [am_stop (fun h => by have := dE_stop t n p h; simp [nsZ, this])]; rfl
theorem am7 (t : Nat → Int) (n p : Nat) : am t n 7 p = encN (nDig t n p) := by
  unfold nDig
  by_cases h : p < n ∧ dgB (t p) = true
  · rw [if_pos h, am_go h.1 (u := 8) (by simp [nsZ, h.2]) (by omega), am8, dE_step t n p h.1 h.2]; rfl
  · rw [if_neg h, am_stop (fun hp => by have : ¬ dgB (t p) = true := fun hd => h ⟨hp, hd⟩
                                        simp [nsZ, this])]; rfl
theorem am6 (t : Nat → Int) (n p : Nat) : am t n 6 p = encN (nDig t n (nSgn t n p)) := by
  unfold nSgn
  by_cases h : p < n ∧ (t p = 43 ∨ t p = 45)
  · rw [if_pos h, am_go h.1 (u := 7) (by simp [nsZ, h.2]) (by omega), am7]
  · rw [if_neg h]
    unfold nDig
    by_cases h' : p < n ∧ dgB (t p) = true
    · have hs : ¬ (t p = 43 ∨ t p = 45) := fun hd => h ⟨h'.1, hd⟩
      rw [if_pos h', am_go h'.1 (u := 8) (by simp [nsZ, h'.2, hs]) (by omega), am8, dE_step t n p h'.1 h'.2]; rfl
    · rw [if_neg h', am_stop (fun hp => by
          have hs : ¬ (t p = 43 ∨ t p = 45) := fun hd => h ⟨hp, hd⟩
          have hd : ¬ dgB (t p) = true := fun hd => h' ⟨hp, hd⟩
          simp [nsZ, hs, hd])]; rfl
/-- A digit is none of the other signs. -/
theorem dg_e {c : Int} (h : c = 101 ∨ c = 69) : dgB c = false := by rcases h with rfl | rfl <;> rfl
theorem am_exp (t : Nat → Int) (n p : Nat) (s : Int) (hs : acB s = true) (he : ∀ c, (c = 101 ∨ c = 69) → nsZ s c = 6) (ho : p < n → ¬ (t p = 101 ∨ t p = 69) → nsZ s (t p) = -1) :
    am t n s p = encN (nExp t n p) := by
  unfold nExp
  by_cases h : p < n ∧ (t p = 101 ∨ t p = 69)
  · rw [if_pos h, am_go h.1 (he _ h.2) (by omega), am6]
  · rw [if_neg h, am_stop (fun hp => ho hp (fun hc => h ⟨hp, hc⟩)), if_pos hs]; rfl
theorem am5 (t : Nat → Int) (n p : Nat) : am t n 5 p = encN (nExp t n (dE t n p)) := by
  rw [am_digs t n 5 (fun c h => ns_dig 5 c h (by simp)) (by omega) _ p (Nat.le_add_left n p)]
  exact am_exp t n _ 5 rfl (fun c h => by simp [nsZ, dg_e h, h]) (fun hp hc => by have := dE_stop t n p hp; simp [nsZ, this, hc])
theorem am4 (t : Nat → Int) (n p : Nat) : am t n 4 p = if p < n ∧ dgB (t p) = true then encN (nExp t n (dE t n p)) else -1 := by
  by_cases h : p < n ∧ dgB (t p) = true
  · rw [if_pos h, am_go h.1 (u := 5) (by simp [nsZ, h.2]) (by omega), am5, dE_step t n p h.1 h.2]
  · rw [if_neg h, am_stop (fun hp => by have : ¬ dgB (t p) = true := fun hd => h ⟨hp, hd⟩
                                        simp [nsZ, this])]; rfl
theorem am_frac (t : Nat → Int) (n p : Nat) (s : Int) (hs : s = 2 ∨ (s = 3 ∧ (p < n → dgB (t p) = false))) : am t n s p = encN ((nFrac t n p).bind fun b => nExp t n b) := by
  unfold nFrac
  by_cases h : p < n ∧ t p = 46
  · have e : nsZ s (t p) = 4 := by
      rcases hs with rfl | ⟨rfl, hd⟩
      · simp [nsZ, h.2]
      · have := hd h.1; simp [nsZ, h.2]; rw [h.2] at this; simp [this]
    rw [if_pos h, am_go h.1 e (by omega), am4]
    by_cases h2 : p + 1 < n ∧ dgB (t (p + 1)) = true
    · rw [if_pos h2, if_pos h2]; rfl
    · rw [if_neg h2, if_neg h2]; rfl
  · rw [if_neg h]
    have ht : p < n → t p ≠ 46 := fun hp hc => h ⟨hp, hc⟩
    show am t n s p = encN (nExp t n p)
    rcases hs with rfl | ⟨rfl, hd⟩
    · exact am_exp t n p 2 rfl (fun c h => by simp [nsZ, h]; omega) (fun hp hc => by simp [nsZ, ht hp, hc])
    · exact am_exp t n p 3 rfl (fun c h => by simp [nsZ, dg_e h, h]; omega) (fun hp hc => by simp [nsZ, ht hp, hc, hd hp])
theorem am_int (t : Nat → Int) (n p : Nat) (s : Int) (hs : s = 1 ∨ (s = 0 ∧ t p ≠ 45)) : am t n s p = encN ((nInt t n p).bind fun a => (nFrac t n a).bind fun b => nExp t n b) := by
  unfold nInt
  by_cases h : p < n ∧ t p = 48
  · have e : nsZ s (t p) = 2 := by
      rcases hs with rfl | ⟨rfl, hd⟩ <;> simp [nsZ, h.2]
    rw [if_pos h, am_go h.1 e (by omega), am_frac t n (p + 1) 2 (.inl rfl)]; rfl
  · rw [if_neg h]
    by_cases h2 : p < n ∧ 49 ≤ t p ∧ t p ≤ 57
    · have hd : dgB (t p) = true := by rw [dgB_iff]; omega
      have e : nsZ s (t p) = 3 := by
        have h8 : t p ≠ 48 := by omega
        rcases hs with rfl | ⟨rfl, h5⟩
        · simp [nsZ, h8, hd]
        · simp [nsZ, h8, hd, h5]
      rw [if_pos h2, am_go h2.1 e (by omega), am_digs t n 3 (fun c h => ns_dig 3 c h (by simp)) (by omega) _ (p + 1) (Nat.le_add_left n _), ← dE_step t n p h2.1 hd]
      rw [am_frac t n _ 3 (.inr ⟨rfl, fun hp => dE_stop t n p hp⟩)]; rfl
    · rw [if_neg h2]
      rw [am_stop (fun hp => by
        have h8 : t p ≠ 48 := fun hc => h ⟨hp, hc⟩
        have hd : ¬ dgB (t p) = true := fun hc => by
          rw [dgB_iff] at hc; exact h2 ⟨hp, by omega, hc.2⟩
        rcases hs with rfl | ⟨rfl, h5⟩
        · simp [nsZ, h8, hd]
        · simp [nsZ, h8, hd, h5])]
      rcases hs with rfl | ⟨rfl, h5⟩ <;> rfl
/-- The law 'numberEnd is the automaton', with no Go in sight. -/
theorem nE_am (t : Nat → Int) (n i : Nat) (h : i < n) : nE t n i = am t n 0 i := by
  unfold nE nO nNeg
  by_cases h5 : t i = 45
  · rw [if_pos h5, am_go h (u := 1) (by simp [nsZ, h5]) (by omega), am_int t n (i + 1) 1 (.inl rfl)]
  · rw [if_neg h5, am_int t n i 0 (.inr ⟨rfl, h5⟩)]

end Go.Proofs.Qxb6603099a.Pl

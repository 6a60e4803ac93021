import Derived.Test.Qxb6603099aPlainStr
import Derived.Test.Qxb6603099aPlainSpan
namespace Go.Proofs.Qxb6603099a.Pl

def spB (c : Int) : Bool := c == 32 || c == 9 || c == 13 || c == 10
/-- SkipSpace: f bytes are left from i on. -/
def skF (t : Nat → Int) : Nat → Nat → Nat
  | 0, i => i
  | f + 1, i => if spB (t i) = true then skF t f (i + 1) else i
def sk (t : Nat → Int) (n i : Nat) : Nat := skF t (n - i) i
theorem sk_end {t : Nat → Int} {n i : Nat} (h : n ≤ i) : sk t n i = i := by
  unfold sk; rw [show n - i = 0 by omega]; rfl
theorem sk_eq {t : Nat → Int} {n i : Nat} (h : i < n) : sk t n i = if spB (t i) = true then sk t n (i + 1) else i := by
  unfold sk; rw [show n - i = (n - (i + 1)) + 1 by omega]; rfl
theorem sk_facts (t : Nat → Int) (n : Nat) : ∀ k i, n ≤ i + k → i ≤ sk t n i ∧ (i ≤ n → sk t n i ≤ n) ∧ (sk t n i < n → spB (t (sk t n i)) = false) := by
  intro k
  induction k with
  | zero => intro i h; rw [sk_end (by omega)]; exact ⟨by omega, by omega, by omega⟩
  | succ k ih =>
    intro i h
    by_cases hi : n ≤ i
    · rw [sk_end (by omega)]; exact ⟨by omega, by omega, by omega⟩
    · rw [sk_eq (by omega)]
      by_cases hd : spB (t i) = true
      · rw [if_pos hd]
        have := ih (i + 1) (by omega)
        exact ⟨by omega, fun _ => this.2.1 (by omega), this.2.2⟩
      · rw [if_neg hd]
        exact ⟨by omega, by omega, fun _ => by simpa using hd⟩
theorem sk_ge (t : Nat → Int) (n i : Nat) : i ≤ sk t n i := (sk_facts t n _ i (Nat.le_add_left n i)).1
theorem sk_len (t : Nat → Int) (n i : Nat) (h : i ≤ n) : sk t n i ≤ n := (sk_facts t n _ i (Nat.le_add_left n i)).2.1 h
theorem sk_stop (t : Nat → Int) (n i : Nat) (h : sk t n i < n) : spB (t (sk t n i)) = false := (sk_facts t n _ i (Nat.le_add_left n i)).2.2 h
theorem sk_sk (t : Nat → Int) (n i : Nat) : sk t n (sk t n i) = sk t n i := by
  by_cases h : n ≤ sk t n i
  · exact sk_end h
  · rw [sk_eq (by omega), if_neg (by rw [sk_stop t n i (by omega)]; simp)]

/-- Does the word lie at i? -/
def preB (t : Nat → Int) : Nat → List Int → Bool
  | _, [] => true
  | i, c :: cs => t i == c && preB t (i + 1) cs
def wd (t : Nat → Int) (n i : Nat) (w : List Int) : Int := if i + w.length ≤ n ∧ preB t i w = true then ((i + w.length : Nat) : Int) else -1
/-- scalarEnd. -/
def sc (t : Nat → Int) (n i : Nat) : Int :=
  if n ≤ i then -1
  else if t i = 34 then vS t n (i + 1)
  else if t i = 116 then wd t n i [116, 114, 117, 101]
  else if t i = 102 then wd t n i [102, 97, 108, 115, 101]
  else if t i = 110 then wd t n i [110, 117, 108, 108]
  else nE t n i
theorem vS_rg (t : Nat → Int) (n i : Nat) : vS t n i = -1 ∨ (0 ≤ vS t n i ∧ i < (vS t n i).toNat ∧ (vS t n i).toNat ≤ n) := by
  rcases vS_range t n _ i (Nat.le_add_left n i) with h | ⟨r, a, b, c, _⟩
  · exact .inl h
  · right; rw [a]; simp; omega
theorem wd_rg (t : Nat → Int) (n i : Nat) (w : List Int) (hw : 0 < w.length) : wd t n i w = -1 ∨ (0 ≤ wd t n i w ∧ i < (wd t n i w).toNat ∧ (wd t n i w).toNat ≤ n) := by
  unfold wd
  split
  · right; simp only [Int.toNat_natCast]; omega
  · exact .inl rfl
theorem nE_rg (t : Nat → Int) (n i : Nat) : nE t n i = -1 ∨ (0 ≤ nE t n i ∧ i < (nE t n i).toNat ∧ (nE t n i).toNat ≤ n) := by
  unfold nE
  cases h : nO t n i with
  | none => exact .inl rfl
  | some r => have := nO_cut h; right; simp only [encN, Int.toNat_natCast]; omega
theorem sc_rg (t : Nat → Int) (n i : Nat) : sc t n i = -1 ∨ (0 ≤ sc t n i ∧ i < (sc t n i).toNat ∧ (sc t n i).toNat ≤ n) := by
  unfold sc
  split
  · exact .inl rfl
  · split
    · rcases vS_rg t n (i + 1) with h | h
      · exact .inl h
      · right; omega
    · split
      · exact wd_rg t n i _ (by decide)
      · split
        · exact wd_rg t n i _ (by decide)
        · split
          · exact wd_rg t n i _ (by decide)
          · exact nE_rg t n i
/-- memberName. -/
def mN (t : Nat → Int) (n i : Nat) : Int :=
  if n ≤ i ∨ t i ≠ 34 then -1
  else if vS t n (i + 1) < 0 then -1
  else if n ≤ sk t n (vS t n (i + 1)).toNat ∨ t (sk t n (vS t n (i + 1)).toNat) ≠ 58 then -1
  else (sk t n (sk t n (vS t n (i + 1)).toNat + 1) : Int)
theorem mN_rg (t : Nat → Int) (n i : Nat) : mN t n i = -1 ∨ (0 ≤ mN t n i ∧ i < (mN t n i).toNat ∧ (mN t n i).toNat ≤ n) := by
  unfold mN
  split
  · exact .inl rfl
  · split
    · exact .inl rfl
    · split
      · exact .inl rfl
      · right
        have h1 := sk_ge t n (vS t n (i + 1)).toNat
        have h2 := sk_ge t n (sk t n (vS t n (i + 1)).toNat + 1)
        have h3 := sk_len t n (sk t n (vS t n (i + 1)).toNat + 1) (by omega)
        rcases vS_rg t n (i + 1) with h | h
        · omega
        · simp only [Int.toNat_natCast]; omega

def clo (o : Int) : Int := if o = 123 then 125 else 93

/-- Valid's machine: tag true: a value begins at i; tag false: a value has ended before i. st: the objects and arrays being read, innermost first. -/
def mcF (t : Nat → Int) (n : Nat) : Nat → Bool → Nat → List Int → Bool
  | 0, _, _, _ => false
  | f + 1, true, i, st =>
    if i < n ∧ (t i = 123 ∨ t i = 91) then
      if st.length = 10000 then false
      else if sk t n (i + 1) < n ∧ t (sk t n (i + 1)) ≠ clo (t i) then
        if t i = 123 then (if mN t n (sk t n (i + 1)) < 0 then false else mcF t n f true (mN t n (sk t n (i + 1))).toNat (t i :: st))
        else mcF t n f true (sk t n (i + 1)) (t i :: st)
      else mcF t n f false (sk t n (i + 1)) (t i :: st)
    else if sc t n i < 0 then false else mcF t n f false (sc t n i).toNat st
  | _ + 1, false, i, [] => sk t n i == n
  | f + 1, false, i, o :: st =>
    if n ≤ sk t n i then false
    else if t (sk t n i) = clo o then mcF t n f false (sk t n i + 1) st
    else if t (sk t n i) ≠ 44 then false
    else if o = 123 then (if mN t n (sk t n (sk t n i + 1)) < 0 then false else mcF t n f true (mN t n (sk t n (sk t n i + 1))).toNat (o :: st))
    else mcF t n f true (sk t n (sk t n i + 1)) (o :: st)

theorem mcF_t (t : Nat → Int) (n f i : Nat) (st : List Int) : mcF t n (f + 1) true i st =
    if i < n ∧ (t i = 123 ∨ t i = 91) then
      if st.length = 10000 then false
      else if sk t n (i + 1) < n ∧ t (sk t n (i + 1)) ≠ clo (t i) then
        if t i = 123 then (if mN t n (sk t n (i + 1)) < 0 then false else mcF t n f true (mN t n (sk t n (i + 1))).toNat (t i :: st))
        else mcF t n f true (sk t n (i + 1)) (t i :: st)
      else mcF t n f false (sk t n (i + 1)) (t i :: st)
    else if sc t n i < 0 then false else mcF t n f false (sc t n i).toNat st := rfl
theorem mcF_f (t : Nat → Int) (n f i : Nat) (o : Int) (st : List Int) : mcF t n (f + 1) false i (o :: st) =
    if n ≤ sk t n i then false
    else if t (sk t n i) = clo o then mcF t n f false (sk t n i + 1) st
    else if t (sk t n i) ≠ 44 then false
    else if o = 123 then (if mN t n (sk t n (sk t n i + 1)) < 0 then false else mcF t n f true (mN t n (sk t n (sk t n i + 1))).toNat (o :: st))
    else mcF t n f true (sk t n (sk t n i + 1)) (o :: st) := rfl
theorem mcF_fuel (t : Nat → Int) (n : Nat) : ∀ f g b i st, n < i + f → 1 ≤ f → n < i + g → 1 ≤ g → mcF t n f b i st = mcF t n g b i st := by
  intro f
  induction f with
  | zero => intro g b i st _ h; omega
  | succ f ih =>
    intro g b i st h1 _ h2 h3
    cases g with
    | zero => omega
    | succ g =>
      cases b with
      | true =>
        simp only [mcF]
        by_cases hc : i < n ∧ (t i = 123 ∨ t i = 91)
        · rw [if_pos hc, if_pos hc]
          have hs := sk_ge t n (i + 1)
          have e1 := ih g false (sk t n (i + 1)) (t i :: st) (by omega) (by omega) (by omega) (by omega)
          have e2 := ih g true (sk t n (i + 1)) (t i :: st) (by omega) (by omega) (by omega) (by omega)
          rw [e1, e2]
          rcases mN_rg t n (sk t n (i + 1)) with hm | hm
          · rw [if_pos (show mN t n (sk t n (i + 1)) < 0 by omega), if_pos (show mN t n (sk t n (i + 1)) < 0 by omega)]
          · rw [ih g true (mN t n (sk t n (i + 1))).toNat (t i :: st) (by omega) (by omega) (by omega) (by omega)]
        · rw [if_neg hc, if_neg hc]
          rcases sc_rg t n i with hm | hm
          · rw [if_pos (show sc t n i < 0 by omega), if_pos (show sc t n i < 0 by omega)]
          · rw [ih g false (sc t n i).toNat st (by omega) (by omega) (by omega) (by omega)]
      | false =>
        cases st with
        | nil => rfl
        | cons o st =>
          simp only [mcF]
          by_cases hc : n ≤ sk t n i
          · rw [if_pos hc, if_pos hc]
          · rw [if_neg hc, if_neg hc]
            have hs := sk_ge t n i
            have hs2 := sk_ge t n (sk t n i + 1)
            rw [ih g false (sk t n i + 1) st (by omega) (by omega) (by omega) (by omega), ih g true (sk t n (sk t n i + 1)) (o :: st) (by omega) (by omega) (by omega) (by omega)]
            rcases mN_rg t n (sk t n (sk t n i + 1)) with hm | hm
            · rw [if_pos (show mN t n (sk t n (sk t n i + 1)) < 0 by omega), if_pos (show mN t n (sk t n (sk t n i + 1)) < 0 by omega)]
            · rw [ih g true (mN t n (sk t n (sk t n i + 1))).toNat (o :: st) (by omega) (by omega) (by omega) (by omega)]

def mc (t : Nat → Int) (n : Nat) (b : Bool) (i : Nat) (st : List Int) : Bool := mcF t n (n + 1) b i st
theorem mc_of (t : Nat → Int) (n f : Nat) (b : Bool) (i : Nat) (st : List Int) (h : n < i + f) (h' : 1 ≤ f) : mcF t n f b i st = mc t n b i st := mcF_fuel t n _ _ b i st h h' (by omega) (by omega)
theorem mc_true (t : Nat → Int) (n i : Nat) (st : List Int) : mc t n true i st =
    if i < n ∧ (t i = 123 ∨ t i = 91) then
      if st.length = 10000 then false
      else if sk t n (i + 1) < n ∧ t (sk t n (i + 1)) ≠ clo (t i) then
        if t i = 123 then (if mN t n (sk t n (i + 1)) < 0 then false else mc t n true (mN t n (sk t n (i + 1))).toNat (t i :: st))
        else mc t n true (sk t n (i + 1)) (t i :: st)
      else mc t n false (sk t n (i + 1)) (t i :: st)
    else if sc t n i < 0 then false else mc t n false (sc t n i).toNat st := by
  rw [← mc_of t n (n + 2) true i st (by omega) (by omega)]
  rw [mcF_t]
  rw [mc_of _ _ _ _ _ _ (by omega) (by omega), mc_of _ _ _ _ _ _ (by omega) (by omega), mc_of _ _ _ _ _ _ (by omega) (by omega), mc_of _ _ _ _ _ _ (by omega) (by omega)]
theorem mc_nil (t : Nat → Int) (n i : Nat) : mc t n false i [] = (sk t n i == n) := rfl
theorem mc_cons (t : Nat → Int) (n i : Nat) (o : Int) (st : List Int) : mc t n false i (o :: st) =
    if n ≤ sk t n i then false
    else if t (sk t n i) = clo o then mc t n false (sk t n i + 1) st
    else if t (sk t n i) ≠ 44 then false
    else if o = 123 then (if mN t n (sk t n (sk t n i + 1)) < 0 then false else mc t n true (mN t n (sk t n (sk t n i + 1))).toNat (o :: st))
    else mc t n true (sk t n (sk t n i + 1)) (o :: st) := by
  rw [← mc_of t n (n + 2) false i (o :: st) (by omega) (by omega)]
  rw [mcF_f]
  rw [mc_of _ _ _ _ _ _ (by omega) (by omega), mc_of _ _ _ _ _ _ (by omega) (by omega), mc_of _ _ _ _ _ _ (by omega) (by omega)]

/-- The recursive descent: tag 0: the value at p; tag 1: the members of an object from p on; tag 2: the entries of an array from p on. -/
def rdF (t : Nat → Int) (n : Nat) : Nat → Nat → Nat → Nat → Int
  | 0, _, _, _ => -1
  | f + 1, 0, p, d =>
    if n ≤ p then -1
    else if t p = 123 then
      if 10000 < d + 1 then -1
      else if sk t n (p + 1) < n ∧ t (sk t n (p + 1)) = 125 then (sk t n (p + 1) : Int) + 1
      else rdF t n f 1 (sk t n (p + 1)) (d + 1)
    else if t p = 91 then
      if 10000 < d + 1 then -1
      else if sk t n (p + 1) < n ∧ t (sk t n (p + 1)) = 93 then (sk t n (p + 1) : Int) + 1
      else rdF t n f 2 (sk t n (p + 1)) (d + 1)
    else sc t n p
  | f + 1, 1, p, d =>
    if mN t n p < 0 then -1
    else if rdF t n f 0 (mN t n p).toNat d < 0 then -1
    else if n ≤ sk t n (rdF t n f 0 (mN t n p).toNat d).toNat then -1
    else if t (sk t n (rdF t n f 0 (mN t n p).toNat d).toNat) = 125 then (sk t n (rdF t n f 0 (mN t n p).toNat d).toNat : Int) + 1
    else if t (sk t n (rdF t n f 0 (mN t n p).toNat d).toNat) ≠ 44 then -1
    else rdF t n f 1 (sk t n (sk t n (rdF t n f 0 (mN t n p).toNat d).toNat + 1)) d
  | f + 1, _ + 2, p, d =>
    if rdF t n f 0 p d < 0 then -1
    else if n ≤ sk t n (rdF t n f 0 p d).toNat then -1
    else if t (sk t n (rdF t n f 0 p d).toNat) = 93 then (sk t n (rdF t n f 0 p d).toNat : Int) + 1
    else if t (sk t n (rdF t n f 0 p d).toNat) ≠ 44 then -1
    else rdF t n f 2 (sk t n (sk t n (rdF t n f 0 p d).toNat + 1)) d

theorem rdF_0 (t : Nat → Int) (n f p d : Nat) : rdF t n (f + 1) 0 p d =
    if n ≤ p then -1
    else if t p = 123 then
      if 10000 < d + 1 then -1
      else if sk t n (p + 1) < n ∧ t (sk t n (p + 1)) = 125 then (sk t n (p + 1) : Int) + 1
      else rdF t n f 1 (sk t n (p + 1)) (d + 1)
    else if t p = 91 then
      if 10000 < d + 1 then -1
      else if sk t n (p + 1) < n ∧ t (sk t n (p + 1)) = 93 then (sk t n (p + 1) : Int) + 1
      else rdF t n f 2 (sk t n (p + 1)) (d + 1)
    else sc t n p := rfl
theorem rdF_1 (t : Nat → Int) (n f p d : Nat) : rdF t n (f + 1) 1 p d =
    if mN t n p < 0 then -1
    else if rdF t n f 0 (mN t n p).toNat d < 0 then -1
    else if n ≤ sk t n (rdF t n f 0 (mN t n p).toNat d).toNat then -1
    else if t (sk t n (rdF t n f 0 (mN t n p).toNat d).toNat) = 125 then (sk t n (rdF t n f 0 (mN t n p).toNat d).toNat : Int) + 1
    else if t (sk t n (rdF t n f 0 (mN t n p).toNat d).toNat) ≠ 44 then -1
    else rdF t n f 1 (sk t n (sk t n (rdF t n f 0 (mN t n p).toNat d).toNat + 1)) d := rfl
theorem rdF_2 (t : Nat → Int) (n f p d : Nat) : rdF t n (f + 1) 2 p d =
    if rdF t n f 0 p d < 0 then -1
    else if n ≤ sk t n (rdF t n f 0 p d).toNat then -1
    else if t (sk t n (rdF t n f 0 p d).toNat) = 93 then (sk t n (rdF t n f 0 p d).toNat : Int) + 1
    else if t (sk t n (rdF t n f 0 p d).toNat) ≠ 44 then -1
    else rdF t n f 2 (sk t n (sk t n (rdF t n f 0 p d).toNat + 1)) d := rfl
theorem rdF_rg (t : Nat → Int) (n : Nat) : ∀ f g p d, rdF t n f g p d = -1 ∨ (0 ≤ rdF t n f g p d ∧ p < (rdF t n f g p d).toNat ∧ (rdF t n f g p d).toNat ≤ n) := by
  intro f
  induction f with
  | zero => intro g p d; exact .inl rfl
  | succ f ih =>
    intro g p d
    match g with
    | 0 =>
      simp only [rdF]
      split
      · exact .inl rfl
      · have h1 := sk_ge t n (p + 1)
        split
        · split
          · exact .inl rfl
          · split
            · right; omega
            · rcases ih 1 (sk t n (p + 1)) (d + 1) with h | h
              · exact .inl h
              · right; omega
        · split
          · split
            · exact .inl rfl
            · split
              · right; omega
              · rcases ih 2 (sk t n (p + 1)) (d + 1) with h | h
                · exact .inl h
                · right; omega
          · exact sc_rg t n p
    | 1 =>
      simp only [rdF]
      split
      · exact .inl rfl
      · rename_i hm
        have hm' := mN_rg t n p
        generalize hv : rdF t n f 0 (mN t n p).toNat d = v
        have hv' := ih 0 (mN t n p).toNat d
        rw [hv] at hv'
        have h1 := sk_ge t n v.toNat
        have h2 := sk_ge t n (sk t n v.toNat + 1)
        split
        · exact .inl rfl
        · split
          · exact .inl rfl
          · split
            · right; omega
            · split
              · exact .inl rfl
              · rcases ih 1 (sk t n (sk t n v.toNat + 1)) d with h | h
                · exact .inl h
                · right; omega
    | _ + 2 =>
      simp only [rdF]
      generalize hv : rdF t n f 0 p d = v
      have hv' := ih 0 p d
      rw [hv] at hv'
      have h1 := sk_ge t n v.toNat
      have h2 := sk_ge t n (sk t n v.toNat + 1)
      split
      · exact .inl rfl
      · split
        · exact .inl rfl
        · split
          · right; omega
          · split
            · exact .inl rfl
            · rcases ih 2 (sk t n (sk t n v.toNat + 1)) d with h | h
              · exact .inl h
              · right; omega

theorem rdF_fuel (t : Nat → Int) (n : Nat) : ∀ f g k p d, 3 * (n - p) + k < f → 3 * (n - p) + k < g → k ≤ 2 → rdF t n f k p d = rdF t n g k p d := by
  intro f
  induction f with
  | zero => intro g k p d h; omega
  | succ f ih =>
    intro g k p d h1 h2 hk
    cases g with
    | zero => omega
    | succ g =>
      match k with
      | 0 =>
        simp only [rdF]
        by_cases hp : n ≤ p
        · rw [if_pos hp, if_pos hp]
        · rw [if_neg hp, if_neg hp]
          have hs := sk_ge t n (p + 1)
          rw [ih g 1 (sk t n (p + 1)) (d + 1) (by omega) (by omega) (by omega), ih g 2 (sk t n (p + 1)) (d + 1) (by omega) (by omega) (by omega)]
      | 1 =>
        simp only [rdF]
        rcases mN_rg t n p with hm | hm
        · rw [if_pos (show mN t n p < 0 by omega), if_pos (show mN t n p < 0 by omega)]
        · rw [ih g 0 (mN t n p).toNat d (by omega) (by omega) (by omega)]
          have hv := rdF_rg t n g 0 (mN t n p).toNat d
          generalize rdF t n g 0 (mN t n p).toNat d = v at *
          rcases hv with hv | hv
          · rw [if_pos (show v < 0 by omega), if_pos (show v < 0 by omega)]
          · have h1 := sk_ge t n v.toNat
            have h2 := sk_ge t n (sk t n v.toNat + 1)
            rw [ih g 1 (sk t n (sk t n v.toNat + 1)) d (by omega) (by omega) (by omega)]
      | 2 =>
        simp only [rdF]
        rw [ih g 0 p d (by omega) (by omega) (by omega)]
        have hv := rdF_rg t n g 0 p d
        generalize rdF t n g 0 p d = v at *
        rcases hv with hv | hv
        · rw [if_pos (show v < 0 by omega), if_pos (show v < 0 by omega)]
        · have h1 := sk_ge t n v.toNat
          have h2 := sk_ge t n (sk t n v.toNat + 1)
          rw [ih g 2 (sk t n (sk t n v.toNat + 1)) d (by omega) (by omega) (by omega)]
      | _ + 3 => omega

def rd (t : Nat → Int) (n k p d : Nat) : Int := rdF t n (3 * n + 3) k p d
theorem rd_of (t : Nat → Int) (n f k p d : Nat) (h : 3 * (n - p) + k < f) (hk : k ≤ 2) : rdF t n f k p d = rd t n k p d := rdF_fuel t n _ _ k p d h (by omega) hk
theorem rd_rg (t : Nat → Int) (n k p d : Nat) : rd t n k p d = -1 ∨ (0 ≤ rd t n k p d ∧ p < (rd t n k p d).toNat ∧ (rd t n k p d).toNat ≤ n) := rdF_rg t n _ k p d
theorem rd_val (t : Nat → Int) (n p d : Nat) : rd t n 0 p d =
    if n ≤ p then -1
    else if t p = 123 then
      if 10000 < d + 1 then -1
      else if sk t n (p + 1) < n ∧ t (sk t n (p + 1)) = 125 then (sk t n (p + 1) : Int) + 1
      else rd t n 1 (sk t n (p + 1)) (d + 1)
    else if t p = 91 then
      if 10000 < d + 1 then -1
      else if sk t n (p + 1) < n ∧ t (sk t n (p + 1)) = 93 then (sk t n (p + 1) : Int) + 1
      else rd t n 2 (sk t n (p + 1)) (d + 1)
    else sc t n p := by
  rw [← rd_of t n (3 * n + 4) 0 p d (by omega) (by omega)]
  rw [rdF_0, rd_of t n (3 * n + 3) 1 _ _ (by omega) (by omega), rd_of t n (3 * n + 3) 2 _ _ (by omega) (by omega)]
theorem rd_obj (t : Nat → Int) (n p d : Nat) : rd t n 1 p d =
    if mN t n p < 0 then -1
    else if rd t n 0 (mN t n p).toNat d < 0 then -1
    else if n ≤ sk t n (rd t n 0 (mN t n p).toNat d).toNat then -1
    else if t (sk t n (rd t n 0 (mN t n p).toNat d).toNat) = 125 then (sk t n (rd t n 0 (mN t n p).toNat d).toNat : Int) + 1
    else if t (sk t n (rd t n 0 (mN t n p).toNat d).toNat) ≠ 44 then -1
    else rd t n 1 (sk t n (sk t n (rd t n 0 (mN t n p).toNat d).toNat + 1)) d := by
  rw [← rd_of t n (3 * n + 4) 1 p d (by omega) (by omega)]
  rw [rdF_1, rd_of t n (3 * n + 3) 0 _ _ (by omega) (by omega), rd_of t n (3 * n + 3) 1 _ _ (by omega) (by omega)]
theorem rd_arr (t : Nat → Int) (n p d : Nat) : rd t n 2 p d =
    if rd t n 0 p d < 0 then -1
    else if n ≤ sk t n (rd t n 0 p d).toNat then -1
    else if t (sk t n (rd t n 0 p d).toNat) = 93 then (sk t n (rd t n 0 p d).toNat : Int) + 1
    else if t (sk t n (rd t n 0 p d).toNat) ≠ 44 then -1
    else rd t n 2 (sk t n (sk t n (rd t n 0 p d).toNat + 1)) d := by
  rw [← rd_of t n (3 * n + 6) 2 p d (by omega) (by omega)]
  rw [rdF_2, rd_of t n (3 * n + 5) 0 _ _ (by omega) (by omega), rd_of t n (3 * n + 5) 2 _ _ (by omega) (by omega)]

/-- What follows a value that ended at r, or failed. -/
def aft (t : Nat → Int) (n : Nat) (r : Int) (st : List Int) : Bool := if r < 0 then false else mc t n false r.toNat st
/-- A member of an object begins at i: its name, its colon, its value. -/
def mem (t : Nat → Int) (n i : Nat) (st : List Int) : Bool := if mN t n i < 0 then false else mc t n true (mN t n i).toNat (123 :: st)

theorem aft_neg {t : Nat → Int} {n : Nat} {r : Int} (st : List Int) (h : r < 0) : aft t n r st = false := by unfold aft; rw [if_pos h]
theorem aft_nat {t : Nat → Int} {n r : Nat} (st : List Int) : aft t n (r : Int) st = mc t n false r st := by unfold aft; rw [if_neg (by omega)]; rfl
theorem aft_nat1 {t : Nat → Int} {n r : Nat} (st : List Int) : aft t n ((r : Int) + 1) st = mc t n false (r + 1) st := aft_nat (r := r + 1) st

/-- What a bracket does, case by case. -/
theorem mc_full {t : Nat → Int} {n i : Nat} {st : List Int} (hi : i < n) (h1 : t i = 123 ∨ t i = 91) (h2 : st.length = 10000) : mc t n true i st = false := by
  rw [mc_true, if_pos ⟨hi, h1⟩, if_pos h2]
theorem mc_open {t : Nat → Int} {n i : Nat} {st : List Int} (hi : i < n) (h1 : t i = 123 ∨ t i = 91) (h2 : st.length ≠ 10000) (h3 : ¬ (sk t n (i + 1) < n ∧ t (sk t n (i + 1)) ≠ clo (t i))) : mc t n true i st = mc t n false (sk t n (i + 1)) (t i :: st) := by
  rw [mc_true, if_pos ⟨hi, h1⟩, if_neg h2, if_neg h3]
theorem mc_openO {t : Nat → Int} {n i : Nat} {st : List Int} (hi : i < n) (h1 : t i = 123) (h2 : st.length ≠ 10000) (h3 : sk t n (i + 1) < n) (h4 : t (sk t n (i + 1)) ≠ 125) : mc t n true i st = mem t n (sk t n (i + 1)) st := by
  rw [mc_true, if_pos ⟨hi, .inl h1⟩, if_neg h2, if_pos ⟨h3, by rw [h1]; exact h4⟩, if_pos h1, h1]; rfl
theorem mc_openA {t : Nat → Int} {n i : Nat} {st : List Int} (hi : i < n) (h1 : t i = 91) (h2 : st.length ≠ 10000) (h3 : sk t n (i + 1) < n) (h4 : t (sk t n (i + 1)) ≠ 93) : mc t n true i st = mc t n true (sk t n (i + 1)) (91 :: st) := by
  rw [mc_true, if_pos ⟨hi, .inr h1⟩, if_neg h2, if_pos ⟨h3, by rw [h1]; exact h4⟩, if_neg (by omega), h1]
theorem mc_scal {t : Nat → Int} {n i : Nat} {st : List Int} (h : ¬ (i < n ∧ (t i = 123 ∨ t i = 91))) : mc t n true i st = aft t n (sc t n i) st := by
  rw [mc_true, if_neg h]; rfl
theorem mc_shut {t : Nat → Int} {n i : Nat} {o : Int} {st : List Int} (h : i < n) (h0 : sk t n i = i) (h1 : t i = clo o) : mc t n false i (o :: st) = mc t n false (i + 1) st := by
  rw [mc_cons, h0, if_neg (by omega), if_pos h1]
theorem mc_stop {t : Nat → Int} {n i : Nat} {o : Int} {st : List Int} (h : n ≤ sk t n i) : mc t n false i (o :: st) = false := by
  rw [mc_cons, if_pos h]
/-- Behind an entry of an array, behind a member of an object. -/
theorem mc_nextA (t : Nat → Int) (n v : Nat) (st : List Int) : mc t n false v (91 :: st) =
    if n ≤ sk t n v then false else if t (sk t n v) = 93 then mc t n false (sk t n v + 1) st else if t (sk t n v) ≠ 44 then false else mc t n true (sk t n (sk t n v + 1)) (91 :: st) := by
  rw [mc_cons]; rfl
theorem mc_nextO (t : Nat → Int) (n v : Nat) (st : List Int) : mc t n false v (123 :: st) =
    if n ≤ sk t n v then false else if t (sk t n v) = 125 then mc t n false (sk t n v + 1) st else if t (sk t n v) ≠ 44 then false else mem t n (sk t n (sk t n v + 1)) st := by
  rw [mc_cons]; rfl
theorem rd_end {t : Nat → Int} {n p d : Nat} (h : n ≤ p) : rd t n 0 p d = -1 := by rw [rd_val, if_pos h]
theorem rd_end2 {t : Nat → Int} {n p d : Nat} (h : n ≤ p) : rd t n 2 p d = -1 := by rw [rd_arr, rd_end h, if_pos (by omega)]
theorem mN_end {t : Nat → Int} {n p : Nat} (h : n ≤ p) : mN t n p = -1 := by unfold mN; rw [if_pos (.inl h)]
theorem rd_end1 {t : Nat → Int} {n p d : Nat} (h : n ≤ p) : rd t n 1 p d = -1 := by rw [rd_obj, mN_end h, if_pos (by omega)]
theorem rd_O {t : Nat → Int} {n p d : Nat} (hp : p < n) (h1 : t p = 123) : rd t n 0 p d =
    if 10000 < d + 1 then -1 else if sk t n (p + 1) < n ∧ t (sk t n (p + 1)) = 125 then (sk t n (p + 1) : Int) + 1 else rd t n 1 (sk t n (p + 1)) (d + 1) := by
  rw [rd_val, if_neg (by omega), if_pos h1]
theorem rd_A {t : Nat → Int} {n p d : Nat} (hp : p < n) (h1 : t p = 91) : rd t n 0 p d =
    if 10000 < d + 1 then -1 else if sk t n (p + 1) < n ∧ t (sk t n (p + 1)) = 93 then (sk t n (p + 1) : Int) + 1 else rd t n 2 (sk t n (p + 1)) (d + 1) := by
  rw [rd_val, if_neg (by omega), if_neg (by omega), if_pos h1]
theorem rd_S {t : Nat → Int} {n p d : Nat} (h : ¬ (p < n ∧ (t p = 123 ∨ t p = 91))) : rd t n 0 p d = sc t n p := by
  rw [rd_val]
  by_cases hp : n ≤ p
  · rw [if_pos hp]; unfold sc; rw [if_pos hp]
  · rw [if_neg hp, if_neg (by omega), if_neg (by omega)]

/-- Valid's machine is the recursive descent: a value; the entries of an array; the members of an object. -/
theorem machine (t : Nat → Int) (n : Nat) : ∀ k i, n ≤ i + k → ∀ st : List Int, st.length ≤ 10000 →
    mc t n true i st = aft t n (rd t n 0 i st.length) st ∧
    (st.length < 10000 → mc t n true i (91 :: st) = aft t n (rd t n 2 i (st.length + 1)) st) ∧
    (st.length < 10000 → mem t n i st = aft t n (rd t n 1 i (st.length + 1)) st) := by
  intro k
  induction k with
  | zero =>
    intro i h st hst
    have hn : n ≤ i := by omega
    have hs : ∀ st, mc t n true i st = false := by
      intro st
      rw [mc_scal (by omega), aft_neg _ (by unfold sc; rw [if_pos hn]; omega)]
    refine ⟨?_, fun _ => ?_, fun _ => ?_⟩
    · rw [hs, rd_end hn, aft_neg _ (by omega)]
    · rw [hs, rd_end2 hn, aft_neg _ (by omega)]
    · rw [rd_end1 hn, aft_neg _ (by omega)]; unfold mem; rw [mN_end hn, if_pos (by omega)]
  | succ k ih =>
    intro i h st hst
    have hV : ∀ st : List Int, st.length ≤ 10000 → mc t n true i st = aft t n (rd t n 0 i st.length) st := by
      intro st hst
      by_cases hc : i < n ∧ (t i = 123 ∨ t i = 91)
      · have hp := sk_ge t n (i + 1)
        obtain ⟨hi, hc⟩ := hc
        by_cases h2 : st.length = 10000
        · rw [mc_full hi hc h2]
          rcases hc with h1 | h1
          · rw [rd_O hi h1, if_pos (by omega), aft_neg _ (by omega)]
          · rw [rd_A hi h1, if_pos (by omega), aft_neg _ (by omega)]
        · by_cases h3 : n ≤ sk t n (i + 1)
          · rw [mc_open hi hc h2 (by omega), mc_stop (by rw [sk_sk]; exact h3)]
            rcases hc with h1 | h1
            · rw [rd_O hi h1, if_neg (by omega), if_neg (by omega), rd_end1 h3, aft_neg _ (by omega)]
            · rw [rd_A hi h1, if_neg (by omega), if_neg (by omega), rd_end2 h3, aft_neg _ (by omega)]
          · rcases hc with h1 | h1
            · rw [rd_O hi h1, if_neg (by omega)]
              by_cases h4 : t (sk t n (i + 1)) = 125
              · rw [if_pos ⟨by omega, h4⟩, aft_nat1, mc_open hi (.inl h1) h2 (by rw [h4, h1]; simp [clo]), mc_shut (by omega) (sk_sk t n _) (by rw [h4, h1]; rfl)]
              · rw [if_neg (by omega), mc_openO hi h1 h2 (by omega) h4]
                exact (ih (sk t n (i + 1)) (by omega) st hst).2.2 (by omega)
            · rw [rd_A hi h1, if_neg (by omega)]
              by_cases h4 : t (sk t n (i + 1)) = 93
              · rw [if_pos ⟨by omega, h4⟩, aft_nat1, mc_open hi (.inr h1) h2 (by rw [h4, h1]; simp [clo]), mc_shut (by omega) (sk_sk t n _) (by rw [h4, h1]; rfl)]
              · rw [if_neg (by omega), mc_openA hi h1 h2 (by omega) h4]
                exact (ih (sk t n (i + 1)) (by omega) st hst).2.1 (by omega)
      · rw [mc_scal hc, rd_S hc]
    refine ⟨hV st hst, fun hlt => ?_, fun hlt => ?_⟩
    · rw [hV (91 :: st) (by simp; omega), rd_arr]
      show aft t n (rd t n 0 i (st.length + 1)) (91 :: st) = _
      have hr := rd_rg t n 0 i (st.length + 1)
      generalize rd t n 0 i (st.length + 1) = v at *
      rcases hr with hr | hr
      · rw [if_pos (show v < 0 by omega), aft_neg _ (by omega), aft_neg _ (by omega)]
      · obtain ⟨v, rfl⟩ : ∃ m : Nat, v = m := ⟨v.toNat, by omega⟩
        rw [aft_nat, if_neg (show ¬ (v : Int) < 0 by omega), mc_nextA]
        simp only [Int.toNat_natCast] at *
        by_cases h4 : n ≤ sk t n v
        · rw [if_pos h4, if_pos h4, aft_neg _ (by omega)]
        · rw [if_neg h4, if_neg h4]
          have hp := sk_ge t n v
          have hp2 := sk_ge t n (sk t n v + 1)
          by_cases h5 : t (sk t n v) = 93
          · rw [if_pos h5, if_pos h5, aft_nat1]
          · rw [if_neg h5, if_neg h5]
            by_cases h6 : t (sk t n v) ≠ 44
            · rw [if_pos h6, if_pos h6, aft_neg _ (by omega)]
            · rw [if_neg h6, if_neg h6]
              exact (ih (sk t n (sk t n v + 1)) (by omega) st hst).2.1 hlt
    · rw [rd_obj]
      unfold mem
      rcases mN_rg t n i with hm | hm
      · rw [if_pos (show mN t n i < 0 by omega), if_pos (show mN t n i < 0 by omega), aft_neg _ (by omega)]
      · rw [if_neg (show ¬ mN t n i < 0 by omega), if_neg (show ¬ mN t n i < 0 by omega)]
        rw [(ih (mN t n i).toNat (by omega) (123 :: st) (by simp; omega)).1]
        show aft t n (rd t n 0 (mN t n i).toNat (st.length + 1)) (123 :: st) = _
        have hr := rd_rg t n 0 (mN t n i).toNat (st.length + 1)
        generalize rd t n 0 (mN t n i).toNat (st.length + 1) = v at *
        rcases hr with hr | hr
        · rw [if_pos (show v < 0 by omega), aft_neg _ (by omega), aft_neg _ (by omega)]
        · obtain ⟨v, rfl⟩ : ∃ m : Nat, v = m := ⟨v.toNat, by omega⟩
          rw [aft_nat, if_neg (show ¬ (v : Int) < 0 by omega), mc_nextO]
          simp only [Int.toNat_natCast] at *
          by_cases h4 : n ≤ sk t n v
          · rw [if_pos h4, if_pos h4, aft_neg _ (by omega)]
          · rw [if_neg h4, if_neg h4]
            have hp := sk_ge t n v
            have hp2 := sk_ge t n (sk t n v + 1)
            by_cases h5 : t (sk t n v) = 125
            · rw [if_pos h5, if_pos h5, aft_nat1]
            · rw [if_neg h5, if_neg h5]
              by_cases h6 : t (sk t n v) ≠ 44
              · rw [if_pos h6, if_pos h6, aft_neg _ (by omega)]
              · rw [if_neg h6, if_neg h6]
                exact (ih (sk t n (sk t n v + 1)) (by omega) st hst).2.2 hlt

/-- Valid, and the model of it. -/
def vd (t : Nat → Int) (n : Nat) : Bool := mc t n true (sk t n 0) []
def vm (t : Nat → Int) (n : Nat) : Bool := if rd t n 0 (sk t n 0) 0 < 0 then false else sk t n (rd t n 0 (sk t n 0) 0).toNat == n
theorem vd_vm (t : Nat → Int) (n : Nat) : vd t n = vm t n := by
  unfold vd
  rw [(machine t n n (sk t n 0) (by omega) [] (by simp)).1]
  rfl

end Go.Proofs.Qxb6603099a.Pl

import Derived.Test.Qxb6603099aPlainVal
namespace Go.Proofs.Qxb6603099a.Pl

/-- Valid's state: a value begins at i, a value has ended before i; L: the brackets being read, the outermost first. -/
def AtV (t : Nat → Int) (n i : Nat) (L : List Int) : Prop := vd t n = mc t n true i L.reverse
def AtC (t : Nat → Int) (n i : Nat) (L : List Int) : Prop := vd t n = mc t n false i L.reverse

theorem rev_snoc (L : List Int) (o : Int) : (L ++ [o]).reverse = o :: L.reverse := by simp

theorem a_full {t : Nat → Int} {n i : Nat} {L : List Int} (h : AtV t n i L) (hi : i < n) (h1 : t i = 123 ∨ t i = 91) (h2 : L.length = 10000) : vd t n = false := by
  rw [h, mc_full hi h1 (by simpa using h2)]
theorem a_open {t : Nat → Int} {n i : Nat} {L : List Int} (h : AtV t n i L) (hi : i < n) (h1 : t i = 123 ∨ t i = 91) (h2 : L.length ≠ 10000) (h3 : ¬ (sk t n (i + 1) < n ∧ t (sk t n (i + 1)) ≠ clo (t i))) :
    AtC t n (sk t n (i + 1)) (L ++ [t i]) := by
  unfold AtC; rw [h, mc_open hi h1 (by simpa using h2) h3, rev_snoc]
theorem a_openA {t : Nat → Int} {n i : Nat} {L : List Int} (h : AtV t n i L) (hi : i < n) (h1 : t i = 91) (h2 : L.length ≠ 10000) (h3 : sk t n (i + 1) < n) (h4 : t (sk t n (i + 1)) ≠ clo (t i)) :
    AtV t n (sk t n (i + 1)) (L ++ [t i]) := by
  unfold AtV; rw [h, mc_openA hi h1 (by simpa using h2) h3 (by rw [h1] at h4; exact h4), rev_snoc, h1]
theorem a_openO_no {t : Nat → Int} {n i : Nat} {L : List Int} (h : AtV t n i L) (hi : i < n) (h1 : t i = 123) (h2 : L.length ≠ 10000) (h3 : sk t n (i + 1) < n) (h4 : t (sk t n (i + 1)) ≠ clo (t i))
    (h5 : mN t n (sk t n (i + 1)) = -1) : vd t n = false := by
  rw [h, mc_openO hi h1 (by simpa using h2) h3 (by rw [h1] at h4; exact h4)]; unfold mem; rw [if_pos (by omega)]
theorem a_openO {t : Nat → Int} {n i m : Nat} {L : List Int} (h : AtV t n i L) (hi : i < n) (h1 : t i = 123) (h2 : L.length ≠ 10000) (h3 : sk t n (i + 1) < n) (h4 : t (sk t n (i + 1)) ≠ clo (t i))
    (h5 : mN t n (sk t n (i + 1)) = m) : AtV t n m (L ++ [t i]) := by
  unfold AtV; rw [h, mc_openO hi h1 (by simpa using h2) h3 (by rw [h1] at h4; exact h4), rev_snoc, h1]; unfold mem; rw [h5, if_neg (by omega)]; rfl
theorem a_scal_no {t : Nat → Int} {n i : Nat} {L : List Int} (h : AtV t n i L) (h1 : ¬ (i < n ∧ (t i = 123 ∨ t i = 91))) (h2 : sc t n i = -1) : vd t n = false := by
  rw [h, mc_scal h1, h2]; rfl
theorem a_scal {t : Nat → Int} {n i m : Nat} {L : List Int} (h : AtV t n i L) (h1 : ¬ (i < n ∧ (t i = 123 ∨ t i = 91))) (h2 : sc t n i = m) : AtC t n m L := by
  unfold AtC; rw [h, mc_scal h1, h2, aft_nat]
theorem c_nil {t : Nat → Int} {n i : Nat} (h : AtC t n i []) : vd t n = (sk t n i == n) := by rw [h]; rfl
theorem c_end {t : Nat → Int} {n i : Nat} {L : List Int} {o : Int} (h : AtC t n i (L ++ [o])) (h1 : n ≤ sk t n i) : vd t n = false := by
  rw [h, rev_snoc, mc_cons, if_pos h1]
theorem c_shut {t : Nat → Int} {n i : Nat} {L : List Int} {o : Int} (h : AtC t n i (L ++ [o])) (h1 : sk t n i < n) (h2 : t (sk t n i) = clo o) : AtC t n (sk t n i + 1) L := by
  unfold AtC; rw [h, rev_snoc, mc_cons, if_neg (by omega), if_pos h2]
theorem c_bad {t : Nat → Int} {n i : Nat} {L : List Int} {o : Int} (h : AtC t n i (L ++ [o])) (h1 : sk t n i < n) (h2 : t (sk t n i) ≠ clo o) (h3 : t (sk t n i) ≠ 44) : vd t n = false := by
  rw [h, rev_snoc, mc_cons, if_neg (by omega), if_neg h2, if_pos h3]
theorem c_arr {t : Nat → Int} {n i : Nat} {L : List Int} {o : Int} (h : AtC t n i (L ++ [o])) (h1 : sk t n i < n) (h2 : t (sk t n i) ≠ clo o) (h3 : t (sk t n i) = 44) (h4 : o ≠ 123) :
    AtV t n (sk t n (sk t n i + 1)) (L ++ [o]) := by
  unfold AtV; rw [h, rev_snoc, mc_cons, if_neg (by omega), if_neg h2, if_neg (by omega), if_neg h4]
theorem c_obj_no {t : Nat → Int} {n i : Nat} {L : List Int} {o : Int} (h : AtC t n i (L ++ [o])) (h1 : sk t n i < n) (h2 : t (sk t n i) ≠ clo o) (h3 : t (sk t n i) = 44) (h4 : o = 123)
    (h5 : mN t n (sk t n (sk t n i + 1)) = -1) : vd t n = false := by
  rw [h, rev_snoc, mc_cons, if_neg (by omega), if_neg h2, if_neg (by omega), if_pos h4, if_pos (by omega)]
theorem c_obj {t : Nat → Int} {n i m : Nat} {L : List Int} {o : Int} (h : AtC t n i (L ++ [o])) (h1 : sk t n i < n) (h2 : t (sk t n i) ≠ clo o) (h3 : t (sk t n i) = 44) (h4 : o = 123)
    (h5 : mN t n (sk t n (sk t n i + 1)) = m) : AtV t n m (L ++ [o]) := by
  unfold AtV; rw [h, rev_snoc, mc_cons, if_neg (by omega), if_neg h2, if_neg (by omega), if_pos h4, h5, if_neg (by omega)]; rfl
/-- memberName's answer, scalarEnd's answer: -1, or an offset behind i. -/
theorem mN_or (t : Nat → Int) (n i : Nat) : mN t n i = -1 ∨ ∃ m : Nat, mN t n i = m ∧ i < m ∧ m ≤ n := by
  rcases mN_rg t n i with h | ⟨h0, h1, h2⟩
  · exact .inl h
  · exact .inr ⟨_, (Int.toNat_of_nonneg h0).symm, h1, h2⟩
theorem sc_or (t : Nat → Int) (n i : Nat) : sc t n i = -1 ∨ ∃ m : Nat, sc t n i = m ∧ i < m ∧ m ≤ n := by
  rcases sc_rg t n i with h | ⟨h0, h1, h2⟩
  · exact .inl h
  · exact .inr ⟨_, (Int.toNat_of_nonneg h0).symm, h1, h2⟩
theorem rd_or (t : Nat → Int) (n k i d : Nat) : rd t n k i d = -1 ∨ ∃ m : Nat, rd t n k i d = m ∧ i < m ∧ m ≤ n := by
  rcases rd_rg t n k i d with h | ⟨h0, h1, h2⟩
  · exact .inl h
  · exact .inr ⟨_, (Int.toNat_of_nonneg h0).symm, h1, h2⟩
theorem vS_or (t : Nat → Int) (n i : Nat) : vS t n i = -1 ∨ ∃ m : Nat, vS t n i = m ∧ i < m ∧ m ≤ n := by
  rcases vS_rg t n i with h | ⟨h0, h1, h2⟩
  · exact .inl h
  · exact .inr ⟨_, (Int.toNat_of_nonneg h0).symm, h1, h2⟩
end Go.Proofs.Qxb6603099a.Pl

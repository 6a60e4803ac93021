import Derived.Test.Qxb6603127aSt
namespace Go.Proofs.Qxb6603127a
open Go.ChangeShapes Go.WideShapes Go.ChangeAt Go.RowKit
set_option linter.unusedVariables false
variable {w0 w w' : World} {n g g' cap cap' : Nat} {L L' : List Int} {fK fS fE fB fA : Nat → Int}

theorem R_ne (m : Nat → List Int) (sp : List Int) (dr : Nat → Bool) (n : Nat) : ∀ k, Pl.R m sp dr n k ≠ []
  | 0 => by simp [Pl.R]
  | k + 1 => by
    have h := R_ne m sp dr n k
    simp only [Pl.R]
    unfold Pl.step
    split
    · split
      · simp
      · simp [h]
    · simp [h]
theorem getD_mid (a r : List Int) (c : Int) (t : List Int) (h : r = c :: t) : (a ++ r).getD a.length 0 = c := by
  subst h
  simp [List.getD_eq_getElem?_getD]

/-- Blanking member i, a dropped one: what becomes of the call's memory. -/
theorem blank_member {m : Nat → List Int} {sp : List Int} {dr : Nat → Bool} {i : Nat} (hst : St w0 n w g cap (Pl.A m sp (i + 1) ++ Pl.R m sp dr n (n - (i + 1))) fK fS fE fB fA)
    (hspec : Spec m sp n fK fE fB fA) (hi : i < n) (hdr : dr i = true) (hlen : (Pl.A m sp (i + 1) ++ Pl.R m sp dr n (n - (i + 1))).length ≤ 10000000) :
    Calls Try.prog 9 #[.slice (some ⟨g, 0, none⟩) (Pl.A m sp (i + 1) ++ Pl.R m sp dr n (n - (i + 1))).length cap, .int .i64 (fS i), .int .i64 (fE i), .int .i64 (fK i), .int .i64 (fB i), .int .i64 (fA i)] w fun e w' =>
      e = .returned (.tuple #[]) ∧ St w0 n w' g cap (Pl.A m sp i ++ Pl.R m sp dr n (n - i)) fK fS fE fB fA := by
  obtain ⟨hK, hE, hB, hA⟩ := hspec i hi
  have e : n - i = (n - (i + 1)) + 1 := by omega
  have hR : Pl.R m sp dr n (n - i) = Pl.step m sp dr i (Pl.R m sp dr n (n - (i + 1))) := by
    rw [e]; simp only [Pl.R]; rw [show n - (n - (i + 1) + 1) = i by omega]
  have hne := R_ne m sp dr n (n - (i + 1))
  have hlast : i + 1 = n → Pl.R m sp dr n (n - (i + 1)) = [125] := fun h => by rw [show n - (i + 1) = 0 by omega]; rfl
  have hAi : (Pl.A m sp (i + 1)).length = (Pl.A m sp i).length + (Pl.sf sp i).length + (m i).length := by simp [Pl.A]; omega
  generalize Pl.R m sp dr n (n - (i + 1)) = r at *
  have hrl : 0 < r.length := List.length_pos_iff.mpr hne
  have hll : (Pl.A m sp (i + 1) ++ r).length = (Pl.A m sp (i + 1)).length + r.length := List.length_append
  by_cases hh : r.head? = some 44
  · obtain ⟨t, rfl⟩ : ∃ t, r = 44 :: t := by
      cases r with
      | nil => cases hh
      | cons a l => simp at hh; subst hh; exact ⟨l, rfl⟩
    have hin : i + 1 < n := by
      rcases Nat.lt_or_ge (i + 1) n with h | h
      · exact h
      · have := hlast (by omega); simp at this
    have hstep : Pl.A m sp i ++ Pl.R m sp dr n (n - i) = Pl.blank ((Pl.A m sp i).length + (Pl.sf sp i).length) ((Pl.A m sp (i + 1)).length + 1) (Pl.A m sp (i + 1) ++ 44 :: t) := by
      rw [Pl.blank_comma, hR]; unfold Pl.step; rw [if_pos hdr, if_pos hh]; rfl
    refine (zzBlank_any (w0.heap.size + 5) g cap _ (fS i) (fE i) (fK i) (fB i) (fA i) ((Pl.A m sp i).length + (Pl.sf sp i).length) ((Pl.A m sp (i + 1)).length + 1) w hst.size hst.t ?_ (by omega) (by omega) hlen).mono ?_
    · exact .inl ⟨(Pl.A m sp (i + 1)).length, by rw [hA, if_pos hin], by omega, getD_mid _ _ 44 t rfl, hK, by omega⟩
    · rintro e w' ⟨rfl, hs, hg⟩
      exact ⟨rfl, by rw [hstep]; exact hst.grew hg hs⟩
  · have hstep : Pl.A m sp i ++ Pl.R m sp dr n (n - i) = Pl.blank (Pl.A m sp i).length (Pl.A m sp (i + 1)).length (Pl.A m sp (i + 1) ++ r) := by
      rw [Pl.blank_plain, hR]; unfold Pl.step; rw [if_pos hdr, if_neg hh]
    refine (zzBlank_any (w0.heap.size + 5) g cap _ (fS i) (fE i) (fK i) (fB i) (fA i) (Pl.A m sp i).length (Pl.A m sp (i + 1)).length w hst.size hst.t ?_ (by omega) (by omega) hlen).mono ?_
    · refine .inr ⟨?_, hE, ?_⟩
      · by_cases hin : i + 1 < n
        · refine .inr ⟨(Pl.A m sp (i + 1)).length, by rw [hA, if_pos hin], by omega, ?_⟩
          cases r with
          | nil => exact absurd rfl hne
          | cons c t =>
            rw [getD_mid _ _ c t rfl]
            intro hc
            exact hh (by rw [hc]; rfl)
        · exact .inl (by rw [hA, if_neg hin])
      · by_cases h0 : i = 0
        · subst h0
          exact .inr ⟨by rw [hB, if_pos rfl], by rw [hK]; simp [Pl.sf]⟩
        · exact .inl (by rw [hB, if_neg h0])
    · rintro e w' ⟨rfl, hs, hg⟩
      exact ⟨rfl, by rw [hstep]; exact hst.grew hg hs⟩
/-- A member that is kept: the text stays as it is. -/
theorem keep_member {m : Nat → List Int} {sp : List Int} {dr : Nat → Bool} {i n : Nat} (hi : i < n) (hdr : dr i = false) :
    Pl.A m sp (i + 1) ++ Pl.R m sp dr n (n - (i + 1)) = Pl.A m sp i ++ Pl.R m sp dr n (n - i) := by
  have e : n - i = (n - (i + 1)) + 1 := by omega
  rw [e]
  simp only [Pl.R]
  rw [show n - (n - (i + 1) + 1) = i by omega]
  unfold Pl.step
  rw [if_neg (by rw [hdr]; simp), A_succ]
  simp
end Go.Proofs.Qxb6603127a

import Derived.Test.Qxb6603099aProg
import Derived.Test.Qxb6603099aPlainVal
import Derived.Test.Qxb6603099aWHex
import Derived.WalkKit
import Derived.ProofKit
namespace Go.Proofs.Qxb6603099a
open Go.ChangeShapes Go.WideShapes Go.ChangeAt Go.RowKit

/-- How a byte stands to the four blanks, as the walk tests them one behind the other. -/
theorem sp_cases (c : Int) : (c == 32) = true ∨ ((c == 32) = false ∧ (c == 9) = true) ∨ ((c == 32) = false ∧ (c == 9) = false ∧ (c == 13) = true) ∨
    ((c == 32) = false ∧ (c == 9) = false ∧ (c == 13) = false ∧ (c == 10) = true) ∨ ((c == 32) = false ∧ (c == 9) = false ∧ (c == 13) = false ∧ (c == 10) = false ∧ Hid (Pl.spB c = false)) := by
  by_cases h1 : c = 32
  · exact .inl (by simpa using h1)
  · by_cases h2 : c = 9
    · exact .inr (.inl ⟨by simpa using h1, by simpa using h2⟩)
    · by_cases h3 : c = 13
      · exact .inr (.inr (.inl ⟨by simpa using h1, by simpa using h2, by simpa using h3⟩))
      · by_cases h4 : c = 10
        · exact .inr (.inr (.inr (.inl ⟨by simpa using h1, by simpa using h2, by simpa using h3, by simpa using h4⟩)))
        · exact .inr (.inr (.inr (.inr ⟨by simpa using h1, by simpa using h2, by simpa using h3, by simpa using h4, by
            show Pl.spB c = false
            simp [Pl.spB]; omega⟩)))

set_option maxRecDepth 20000 in
set_option maxHeartbeats 400000 in
theorem skip_any (t : Nat → Int) (b off n cap i : Nat) (w : World) (hn : n ≤ 1048576) (hi : i ≤ n)
    (hc : ∀ k, k < n → w.cell? ⟨b, off + k, none⟩ = some (.int .u8 (t k))) :
    Calls Try.prog 23 #[.slice (some ⟨b, off, none⟩) n cap, .int .i64 i] w fun e w' => e = .returned (.int .i64 (Pl.sk t n i)) ∧ w' = w := by
  have HC : Hid (∀ k, k < n → w.cell? ⟨b, off + k, none⟩ = some (.int .u8 (t k))) := hc
  clear hc
  go_enter Try.func23, Try.ntmps23
  go_wp2
  go_loop [1] (fun x => ∃ k : Nat, k ≤ n ∧ x = .int .i64 k ∧ Pl.sk t n i = Pl.sk t n k) (fun x => n - (intOf x).toNat)
  case atStart => exact ⟨i, hi, rfl, rfl⟩
  case round =>
    obtain ⟨k, hk, rfl, he⟩ := hrel
    have HE : Hid _ := he
    clear he
    by_cases hlt : k < n
    · have h0 := HC.out k hlt
      rcases sp_cases (t k) with h1 | ⟨h1, h2⟩ | ⟨h1, h2, h3⟩ | ⟨h1, h2, h3, h4⟩ | ⟨h1, h2, h3, h4, h5⟩
      · go_wp2
        go_round
        case rel => exact ⟨k + 1, by omega, by go_num, by rw [HE.out, Pl.sk_eq hlt, if_pos (by simp [Pl.spB, h1])]⟩
        case measure => simp [intOf]; omega
      · go_wp2
        go_round
        case rel => exact ⟨k + 1, by omega, by go_num, by rw [HE.out, Pl.sk_eq hlt, if_pos (by simp [Pl.spB, h2])]⟩
        case measure => simp [intOf]; omega
      · go_wp2
        go_round
        case rel => exact ⟨k + 1, by omega, by go_num, by rw [HE.out, Pl.sk_eq hlt, if_pos (by simp [Pl.spB, h3])]⟩
        case measure => simp [intOf]; omega
      · go_wp2
        go_round
        case rel => exact ⟨k + 1, by omega, by go_num, by rw [HE.out, Pl.sk_eq hlt, if_pos (by simp [Pl.spB, h4])]⟩
        case measure => simp [intOf]; omega
      · go_wp2
        go_ret
        exact ⟨ret_int (by rw [HE.out, Pl.sk_eq hlt, if_neg (by rw [h5.out]; simp)]), rfl⟩
    · go_wp2
      go_ret
      exact ⟨ret_int (by rw [HE.out, Pl.sk_end (by omega)]), rfl⟩

theorem zzIsSpace_any (c : Int) (w : World) :
    Calls Try.prog 29 #[.int .u8 c] w fun e w' => e = .returned (.bool (Pl.spB c)) ∧ w' = w := by
  rcases sp_cases c with h1 | ⟨h1, h2⟩ | ⟨h1, h2, h3⟩ | ⟨h1, h2, h3, h4⟩ | ⟨h1, h2, h3, h4, h5⟩
  all_goals
    go_enter Try.func29, Try.ntmps29
    go_wp2
    go_ret
    exact ⟨ret_bool (by simp [Pl.spB, *]), rfl⟩

set_option maxRecDepth 20000 in
theorem zzSkip_any (t : Nat → Int) (b off n cap i : Nat) (w : World) (hn : n ≤ 1048576) (hi : i ≤ n)
    (hc : ∀ k, k < n → w.cell? ⟨b, off + k, none⟩ = some (.int .u8 (t k))) :
    Calls Try.prog 28 #[.slice (some ⟨b, off, none⟩) n cap, .int .i64 i] w fun e w' => e = .returned (.int .i64 (Pl.sk t n i)) ∧ w' = w := by
  have HC : Hid (∀ k, k < n → w.cell? ⟨b, off + k, none⟩ = some (.int .u8 (t k))) := hc
  clear hc
  go_enter Try.func28, Try.ntmps28
  go_wp2
  go_loop [1] (fun x => ∃ k : Nat, k ≤ n ∧ x = .int .i64 k ∧ Pl.sk t n i = Pl.sk t n k) (fun x => n - (intOf x).toNat)
  case atStart => exact ⟨i, hi, rfl, rfl⟩
  case round =>
    obtain ⟨k, hk, rfl, he⟩ := hrel
    have HE : Hid _ := he
    clear he
    by_cases hlt : k < n
    · have h0 := HC.out k hlt
      by_cases hd : Pl.spB (t k) = true
      · go_wp2_with (go_at_call 29; refine (zzIsSpace_any _ _).mono ?_; rintro e w' ⟨rfl, rfl⟩)
        go_round
        case rel => exact ⟨k + 1, by omega, by go_num, by rw [HE.out, Pl.sk_eq hlt, if_pos hd]⟩
        case measure => simp [intOf]; omega
      · have hd' : Pl.spB (t k) = false := by simpa using hd
        clear hd
        go_wp2_with (go_at_call 29; refine (zzIsSpace_any _ _).mono ?_; rintro e w' ⟨rfl, rfl⟩)
        go_ret
        exact ⟨ret_int (by rw [HE.out, Pl.sk_eq hlt, if_neg (by rw [hd']; simp)]), rfl⟩
    · go_wp2_with fail
      go_ret
      exact ⟨ret_int (by rw [HE.out, Pl.sk_end (by omega)]), rfl⟩

theorem closing_any (c : Int) (w : World) :
    Calls Try.prog 24 #[.int .u8 c] w fun e w' => e = .returned (.int .u8 (Pl.clo c)) ∧ w' = w := by
  by_cases h : c = 123
  · have H : Hid (c = 123) := h
    replace h : (c == 123) = true := by simpa using h
    go_enter Try.func24, Try.ntmps24
    go_wp2
    go_ret
    exact ⟨ret_int (by unfold Pl.clo; rw [if_pos H.out]), rfl⟩
  · have H : Hid (¬ c = 123) := h
    replace h : (c == 123) = false := by simpa using h
    go_enter Try.func24, Try.ntmps24
    go_wp2
    go_ret
    exact ⟨ret_int (by unfold Pl.clo; rw [if_neg H.out]), rfl⟩

set_option maxRecDepth 20000 in
theorem memberName_any (t : Nat → Int) (b off n cap i : Nat) (w : World) (hn : n ≤ 1048576) (hi : i ≤ n)
    (hc : ∀ k, k < n → w.cell? ⟨b, off + k, none⟩ = some (.int .u8 (t k))) :
    Calls Try.prog 25 #[.slice (some ⟨b, off, none⟩) n cap, .int .i64 i] w fun e w' => e = .returned (.int .i64 (Pl.mN t n i)) ∧ w' = w := by
  have HC : Hid (∀ k, k < n → w.cell? ⟨b, off + k, none⟩ = some (.int .u8 (t k))) := hc
  clear hc
  by_cases hlt : i < n
  · have h0 := HC.out i hlt
    by_cases hq : t i = 34
    · have HQ : Hid (¬ (n ≤ i ∨ t i ≠ 34)) := fun h => by omega
      replace hq : (t i != 34) = false := by simpa using hq
      rcases Pl.vS_rg t n (i + 1) with hv | ⟨hv0, hv1, hv2⟩
      · have HV : Hid (Pl.vS t n (i + 1) = -1) := hv
        clear hv
        go_enter Try.func25, Try.ntmps25
        go_wp2_with fail
        refine (validString_any t b off n cap i _ hn hlt HC.out).mono ?_
        rintro e w' ⟨rfl, rfl⟩
        rw [HV.out]
        go_wp2_with fail
        go_ret
        exact ⟨ret_int (by unfold Pl.mN; rw [if_neg HQ.out, if_pos (by rw [HV.out]; omega)]), rfl⟩
      · obtain ⟨r, hr⟩ : ∃ r : Nat, Pl.vS t n (i + 1) = r := ⟨_, (Int.toNat_of_nonneg hv0).symm⟩
        have HV : Hid (Pl.vS t n (i + 1) = r) := hr
        rw [hr] at hv2
        clear hr hv0 hv1
        simp only [Int.toNat_natCast] at hv2
        have HS : Hid (n ≤ Pl.sk t n r ∨ t (Pl.sk t n r) ≠ 58 → Pl.mN t n i = -1) := fun h => by
          unfold Pl.mN; rw [if_neg HQ.out, HV.out, if_neg (by omega)]; simp only [Int.toNat_natCast]; rw [if_pos h]
        have HS2 : Hid (¬ (n ≤ Pl.sk t n r ∨ t (Pl.sk t n r) ≠ 58) → Pl.mN t n i = Pl.sk t n (Pl.sk t n r + 1)) := fun h => by
          unfold Pl.mN; rw [if_neg HQ.out, HV.out, if_neg (by omega)]; simp only [Int.toNat_natCast]; rw [if_neg h]
        have hsn := Pl.sk_len t n r hv2
        by_cases hsl : Pl.sk t n r < n
        · have hcs := HC.out _ hsl
          by_cases h58 : t (Pl.sk t n r) = 58
          · have H3 : Hid (Pl.mN t n i = Pl.sk t n (Pl.sk t n r + 1)) := HS2.out (fun h => by omega)
            replace h58 : (t (Pl.sk t n r) != 58) = false := by simpa using h58
            clear HS HS2
            go_enter Try.func25, Try.ntmps25
            go_wp2_with fail
            refine (validString_any t b off n cap i _ hn hlt HC.out).mono ?_
            rintro e w' ⟨rfl, rfl⟩
            rw [HV.out]
            go_wp2_with fail
            refine (skip_any t b off n cap r _ hn hv2 HC.out).mono ?_
            rintro e w' ⟨rfl, rfl⟩
            go_wp2_with fail
            refine (skip_any t b off n cap (Pl.sk t n r + 1) _ hn (by omega) HC.out).mono ?_
            rintro e w' ⟨rfl, rfl⟩
            go_wp2_with fail
            go_ret
            exact ⟨ret_int (by rw [H3.out]), rfl⟩
          · have H3 : Hid (Pl.mN t n i = -1) := HS.out (.inr h58)
            replace h58 : (t (Pl.sk t n r) != 58) = true := by simpa using h58
            clear HS HS2
            go_enter Try.func25, Try.ntmps25
            go_wp2_with fail
            refine (validString_any t b off n cap i _ hn hlt HC.out).mono ?_
            rintro e w' ⟨rfl, rfl⟩
            rw [HV.out]
            go_wp2_with fail
            refine (skip_any t b off n cap r _ hn hv2 HC.out).mono ?_
            rintro e w' ⟨rfl, rfl⟩
            go_wp2_with fail
            go_ret
            exact ⟨ret_int (by rw [H3.out]), rfl⟩
        · have H3 : Hid (Pl.mN t n i = -1) := HS.out (.inl (by omega))
          clear HS HS2
          go_enter Try.func25, Try.ntmps25
          go_wp2_with fail
          refine (validString_any t b off n cap i _ hn hlt HC.out).mono ?_
          rintro e w' ⟨rfl, rfl⟩
          rw [HV.out]
          go_wp2_with fail
          refine (skip_any t b off n cap r _ hn hv2 HC.out).mono ?_
          rintro e w' ⟨rfl, rfl⟩
          go_wp2_with fail
          go_ret
          exact ⟨ret_int (by rw [H3.out]), rfl⟩
    · have H3 : Hid (Pl.mN t n i = -1) := by
        have : Pl.mN t n i = -1 := by unfold Pl.mN; rw [if_pos (.inr hq)]
        exact this
      replace hq : (t i != 34) = true := by simpa using hq
      go_enter Try.func25, Try.ntmps25
      go_wp2_with fail
      go_ret
      exact ⟨ret_int (by rw [H3.out]), rfl⟩
  · have H3 : Hid (Pl.mN t n i = -1) := by
      have : Pl.mN t n i = -1 := by unfold Pl.mN; rw [if_pos (.inl (by omega))]
      exact this
    go_enter Try.func25, Try.ntmps25
    go_wp2_with fail
    go_ret
    exact ⟨ret_int (by rw [H3.out]), rfl⟩
end Go.Proofs.Qxb6603099a

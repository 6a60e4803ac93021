import Derived.Test.Qxb6603099aProg
import Derived.Test.Qxb6603099aPlainStr2
import Derived.Test.Qxb6603099aWHex2
import Derived.WalkKit
import Derived.ProofKit
namespace Go.Proofs.Qxb6603099a
open Go.ChangeShapes Go.WideShapes Go.ChangeAt Go.RowKit

theorem fc_step {t : Nat → Int} {n k run : Nat} (h : k < n) {o : Option Nat} (e : Pl.fc t n k run = o) (hno : ¬ (t k = 34 ∧ run % 2 = 0)) :
    Pl.fc t n (k + 1) (if t k = 92 then run + 1 else 0) = o := by
  rw [Pl.fc_eq h, if_neg hno] at e
  split <;> simp_all

set_option maxRecDepth 20000 in
set_option maxHeartbeats 400000 in
theorem strM_none (t : Nat → Int) (b off n cap i : Nat) (w : World) (hn : n ≤ 1048576) (hi : i < n)
    (hc : ∀ k, k < n → w.cell? ⟨b, off + k, none⟩ = some (.int .u8 (t k))) (hf : Pl.fc t n (i + 1) 0 = none) :
    Calls Try.prog 17 #[.slice (some ⟨b, off, none⟩) n cap, .int .i64 i] w fun e w' => e = .returned (.int .i64 (-1)) ∧ w' = w := by
  have HF : Hid (Pl.fc t n (i + 1) 0 = none) := hf
  clear hf
  go_enter Try.func17, Try.ntmps17
  go_wp2
  go_loop [5, 6, 7] (fun j r p => ∃ k run : Nat, k ≤ n ∧ run ≤ k ∧ j = .int .i64 (-1) ∧ r = .int .i64 run ∧ p = .int .i64 k ∧ Pl.fc t n k run = none) (fun _ _ p => n - (intOf p).toNat)
  case atStart => exact ⟨i + 1, 0, by omega, by omega, rfl, rfl, by go_num, HF.out⟩
  case round =>
    obtain ⟨k, run, hk, hrun, rfl, rfl, rfl, hf⟩ := hrel
    have HK : Hid _ := hf
    clear hf
    by_cases hlt : k < n
    · have h0 := hc k hlt
      clear hc
      have hno : ¬ (t k = 34 ∧ run % 2 = 0) := by
        intro h
        have := HK.out
        rw [Pl.fc_eq hlt, if_pos h] at this
        cases this
      have HS : Hid _ := fc_step hlt HK.out hno
      by_cases hq : t k = 34
      · have hr : ((run : Int) % 2 == 0) = false := by simp; omega
        have h9 : Hid (¬ t k = 92) := fun h => by omega
        replace hq : (t k == 34) = true := by simpa using hq
        clear hno HK
        go_wp2
        go_round
        case rel => exact ⟨k + 1, 0, by omega, by omega, rfl, rfl, by go_num, by have := HS.out; rwa [if_neg h9.out] at this⟩
        case measure => simp [intOf]; omega
      · replace hq : (t k == 34) = false := by simpa using hq
        clear hno HK
        by_cases h9 : t k = 92
        · have H9 : Hid (t k = 92) := h9
          replace h9 : (t k == 92) = true := by simpa using h9
          go_wp2
          go_round
          case rel => exact ⟨k + 1, run + 1, by omega, by omega, rfl, by go_num, by go_num, by have := HS.out; rwa [if_pos H9.out] at this⟩
          case measure => simp [intOf]; omega
        · have H9 : Hid (¬ t k = 92) := h9
          replace h9 : (t k == 92) = false := by simpa using h9
          go_wp2
          go_round
          case rel => exact ⟨k + 1, 0, by omega, by omega, rfl, rfl, by go_num, by have := HS.out; rwa [if_neg H9.out] at this⟩
          case measure => simp [intOf]; omega
    · go_wp2
      go_ret
      exact ⟨rfl, rfl⟩

theorem smR_ctl {t : Nat → Int} {p j : Nat} (h : Pl.ctl t j p = true) : -1 = Pl.smR t p (some j) := by
  simp only [Pl.smR]; rw [if_pos h]
theorem smR_no {t : Nat → Int} {p j : Nat} (h : Pl.ctl t j p = false) (h2 : Pl.ck t j p = false) : -1 = Pl.smR t p (some j) := by
  simp only [Pl.smR]; rw [h, h2]; rfl
theorem smR_yes {t : Nat → Int} {p j : Nat} (h : Pl.ctl t j p = false) (h2 : Pl.ck t j p = true) : (j : Int) + 1 = Pl.smR t p (some j) := by
  simp only [Pl.smR]; rw [h, h2]; rfl
theorem fc_hit {t : Nat → Int} {n k run j : Nat} (h : k < n) (e : Pl.fc t n k run = some j) (hy : t k = 34 ∧ run % 2 = 0) : k = j := by
  rw [Pl.fc_eq h, if_pos hy] at e
  simpa using e

set_option maxRecDepth 20000 in
set_option maxHeartbeats 1000000 in
theorem strM_some (t : Nat → Int) (ht : ∀ k, 0 ≤ t k ∧ t k ≤ 255) (b off n cap i j : Nat) (w : World) (hn : n ≤ 1048576) (hi : i < n)
    (hc : ∀ k, k < n → w.cell? ⟨b, off + k, none⟩ = some (.int .u8 (t k))) (hf : Pl.fc t n (i + 1) 0 = some j) :
    Calls Try.prog 17 #[.slice (some ⟨b, off, none⟩) n cap, .int .i64 i] w fun e w' => e = .returned (.int .i64 (Pl.smR t (i + 1) (some j))) ∧ w' = w := by
  have HF : Hid (Pl.fc t n (i + 1) 0 = some j) := hf
  have hj := Pl.fc_some hf
  clear hf
  have HT : Hid (∀ k, 0 ≤ t k ∧ t k ≤ 255) := ht
  have HC : Hid (∀ k, k < n → w.cell? ⟨b, off + k, none⟩ = some (.int .u8 (t k))) := hc
  clear hc ht
  go_enter Try.func17, Try.ntmps17
  go_wp2
  go_loop [5, 6, 7] (fun j' r p => ∃ k run : Nat, k ≤ n ∧ run ≤ k ∧ j' = .int .i64 (-1) ∧ r = .int .i64 run ∧ p = .int .i64 k ∧ Pl.fc t n k run = some j) (fun _ _ p => n - (intOf p).toNat)
  case atStart => exact ⟨i + 1, 0, by omega, by omega, rfl, rfl, by go_num, HF.out⟩
  case round =>
    obtain ⟨k, run, hk, hrun, rfl, rfl, rfl, hf⟩ := hrel
    have HK : Hid _ := hf
    clear hf
    by_cases hlt : k < n
    · have h0 := HC.out k hlt
      by_cases hno : t k = 34 ∧ run % 2 = 0
      · have hkj := fc_hit hlt HK.out hno
        subst hkj
        have hq : (t k == 34) = true := by simpa using hno.1
        have hr : ((run : Int) % 2 == 0) = true := by simp; omega
        clear hno HK
        go_wp2
        go_loop [9] (fun x => ∃ p : Nat, p ≤ k ∧ x = .int .i64 p ∧ Pl.ctl t k (i + 1) = Pl.ctl t k p) (fun x => k - (intOf x).toNat)
        case atStart => exact ⟨i + 1, by omega, by go_num, rfl⟩
        case round =>
          obtain ⟨p, hp, rfl, he⟩ := hrel
          have HE : Hid _ := he
          clear he
          by_cases hpk : p < k
          · have hcp := HC.out p (by omega)
            by_cases hct : t p < 32
            · go_wp2
              go_ret
              exact ⟨ret_int (smR_ctl (by rw [HE.out, Pl.ctl_eq hpk, if_pos hct])), rfl⟩
            · go_wp2
              go_round
              case rel => exact ⟨p + 1, by omega, by go_num, by rw [HE.out, Pl.ctl_eq hpk, if_neg (by omega)]⟩
              case measure => simp [intOf]; omega
          · have HN : Hid (Pl.ctl t k (i + 1) = false) := by
              have := HE.out
              rw [Pl.ctl_end (p := p) (by omega)] at this
              exact this
            clear HE
            go_wp2
            go_loop [10] (fun x => ∃ p : Nat, p ≤ k ∧ x = .int .i64 p ∧ Pl.ck t k (i + 1) = Pl.ck t k p) (fun x => k - (intOf x).toNat)
            case atStart => exact ⟨i + 1, by omega, by go_num, rfl⟩
            case round =>
              clear hp hpk
              obtain ⟨m, hm, rfl, he⟩ := hrel
              have HE : Hid _ := he
              clear he
              by_cases hmk : m < k
              · have hcm := HC.out m (by omega)
                by_cases h9 : t m = 92
                · have H9 : Hid (t m = 92) := h9
                  replace h9 : (t m != 92) = false := by simpa using h9
                  go_wp2
                  go_loop [11] (fun x => ∃ q : Nat, m ≤ q ∧ q ≤ k ∧ x = .int .i64 q ∧ Pl.bs t k m = Pl.bs t k q) (fun x => k - (intOf x).toNat)
                  case atStart => exact ⟨m, by omega, by omega, rfl, rfl⟩
                  case round =>
                    obtain ⟨q, hmq, hqk, rfl, hb⟩ := hrel
                    have HB : Hid _ := hb
                    clear hb
                    by_cases hqk' : q < k
                    · have hcq := HC.out q (by omega)
                      by_cases h9q : t q = 92
                      · have H9q : Hid (t q = 92) := h9q
                        replace h9q : (t q == 92) = true := by simpa using h9q
                        go_wp2
                        go_round
                        case rel => exact ⟨q + 1, by omega, by omega, by go_num, by rw [HB.out, Pl.bs_eq hqk', if_pos H9q.out]⟩
                        case measure => simp [intOf]; omega
                      · have HQ : Hid (Pl.bs t k m = q) := by
                          have := HB.out
                          rw [Pl.bs_eq hqk', if_neg h9q] at this
                          exact this
                        have H9q : Hid (¬ t q = 92) := h9q
                        replace h9q : (t q == 92) = false := by simpa using h9q
                        have hmq' : m ≠ q := by
                          intro h; subst h; exact H9q.out H9.out
                        clear HB
                        by_cases hpar : (q - m) % 2 = 0
                        · have hpar' : (((q : Int) - m) % 2 == 0) = true := by simp; omega
                          go_wp2
                          go_round
                          case rel => exact ⟨q, by omega, rfl, by rw [HE.out, Pl.ck_eq hmk, if_neg (fun h => h H9.out), HQ.out, if_pos hpar]⟩
                          case measure => simp [intOf]; omega
                        · have hpar' : (((q : Int) - m) % 2 == 0) = false := by simp; omega
                          have HK2 : Hid (Pl.ck t k (i + 1) = if Pl.es2B (t q) = true then Pl.ck t k (q + 1) else if t q = 117 then (if q + 4 < k ∧ Pl.hexB (t (q + 1)) = true ∧ Pl.hexB (t (q + 2)) = true ∧ Pl.hexB (t (q + 3)) = true ∧ Pl.hexB (t (q + 4)) = true then Pl.ck t k (q + 5) else false) else false) := by
                            have := HE.out
                            rw [Pl.ck_eq hmk, if_neg (fun h => h H9.out), HQ.out, if_neg hpar, if_neg (by omega)] at this
                            exact this
                          clear HE HQ
                          by_cases hu : t q = 117
                          · have HU : Hid (t q = 117) := hu
                            have ne : ¬ Pl.es2B (t q) = true := by rw [hu]; decide
                            have HK3 : Hid (Pl.ck t k (i + 1) = if q + 4 < k ∧ Pl.hexB (t (q + 1)) = true ∧ Pl.hexB (t (q + 2)) = true ∧ Pl.hexB (t (q + 3)) = true ∧ Pl.hexB (t (q + 4)) = true then Pl.ck t k (q + 5) else false) := by
                              have := HK2.out
                              rw [if_neg ne, if_pos hu] at this
                              exact this
                            replace hu : (t q == 117) = true := by simpa using hu
                            clear ne HK2
                            by_cases h4 : q + 4 < k
                            · go_wp2
                              go_loop [12] (fun x => ∃ h : Nat, q + 1 ≤ h ∧ h ≤ q + 5 ∧ x = .int .i64 h ∧ ∀ y, q + 1 ≤ y → y < h → Pl.hexB (t y) = true) (fun x => q + 5 - (intOf x).toNat)
                              case atStart => exact ⟨q + 1, by omega, by omega, by go_num, fun y h1 h2 => by omega⟩
                              case round =>
                                obtain ⟨h, hh1, hh2, rfl, hx⟩ := hrel
                                have HX : Hid _ := hx
                                clear hx
                                by_cases hlast : h ≤ q + 4
                                · have hch := HC.out h (by omega)
                                  by_cases hhx : Pl.hexB (t h) = true
                                  · go_wp2_with (go_at_call 31; refine (zzIsHex_any _ _ (HT.out h).1 (HT.out h).2).mono ?_; rintro e w' ⟨rfl, rfl⟩)
                                    go_round
                                    case rel => exact ⟨h + 1, by omega, by omega, by go_num, fun y h1 h2 => by
                                      by_cases e : y = h
                                      · subst e; exact hhx
                                      · exact HX.out y h1 (by omega)⟩
                                    case measure => simp [intOf]; omega
                                  · have hhx' : Pl.hexB (t h) = false := by simpa using hhx
                                    clear hhx
                                    go_wp2_with (go_at_call 31; refine (zzIsHex_any _ _ (HT.out h).1 (HT.out h).2).mono ?_; rintro e w' ⟨rfl, rfl⟩)
                                    go_ret
                                    exact ⟨ret_int (smR_no HN.out (by
                                      rw [HK3.out, if_neg]
                                      rintro ⟨_, a1, a2, a3, a4⟩
                                      have : h = q + 1 ∨ h = q + 2 ∨ h = q + 3 ∨ h = q + 4 := by omega
                                      rcases this with e | e | e | e <;> (subst e; simp_all))), rfl⟩
                                · go_wp2
                                  go_round
                                  case rel => exact ⟨q + 5, by omega, by go_num, by
                                    rw [HK3.out, if_pos ⟨h4, HX.out _ (by omega) (by omega), HX.out _ (by omega) (by omega), HX.out _ (by omega) (by omega), HX.out _ (by omega) (by omega)⟩]⟩
                                  case measure => simp [intOf]; omega
                            · go_wp2
                              go_ret
                              exact ⟨ret_int (smR_no HN.out (by rw [HK3.out, if_neg (fun h => h4 h.1)])), rfl⟩
                          · have HU : Hid (¬ t q = 117) := hu
                            replace hu : (t q == 117) = false := by simpa using hu
                            go_wp2
                            all_goals first
                              | (go_round
                                 case rel =>
                                   have hE : Pl.es2B (t q) = true := by simp [Pl.es2B, *]
                                   exact ⟨q + 1, by omega, by go_num, by rw [HK2.out, if_pos hE]⟩
                                 case measure => simp [intOf]; omega)
                              | (go_ret
                                 have hE : Pl.es2B (t q) = false := by simp [Pl.es2B, *]
                                 exact ⟨ret_int (smR_no HN.out (by rw [HK2.out, if_neg (by rw [hE]; simp), if_neg HU.out])), rfl⟩)
                    · have HQ : Hid (Pl.bs t k m = q) := by
                        have := HB.out
                        rw [Pl.bs_end (p := q) (by omega)] at this
                        exact this
                      clear HB
                      by_cases hpar : (q - m) % 2 = 0
                      · have hpar' : (((q : Int) - m) % 2 == 0) = true := by simp; omega
                        go_wp2
                        go_round
                        case rel => exact ⟨q, by omega, rfl, by rw [HE.out, Pl.ck_eq hmk, if_neg (fun h => h H9.out), HQ.out, if_pos hpar]⟩
                        case measure => simp [intOf]; omega
                      · have hpar' : (((q : Int) - m) % 2 == 0) = false := by simp; omega
                        go_wp2
                        go_ret
                        exact ⟨ret_int (smR_no HN.out (by rw [HE.out, Pl.ck_eq hmk, if_neg (fun h => h H9.out), HQ.out, if_neg hpar, if_pos (by omega)])), rfl⟩
                · have H9 : Hid (t m ≠ 92) := h9
                  replace h9 : (t m != 92) = true := by simpa using h9
                  go_wp2
                  go_round
                  case rel => exact ⟨m + 1, by omega, by go_num, by rw [HE.out, Pl.ck_eq hmk, if_pos H9.out]⟩
                  case measure => simp [intOf]; omega
              · have HY : Hid (Pl.ck t k (i + 1) = true) := by
                  have := HE.out
                  rw [Pl.ck_end (p := m) (by omega)] at this
                  exact this
                go_wp2
                go_ret
                exact ⟨ret_int (smR_yes HN.out HY.out), rfl⟩
      · have HS : Hid _ := fc_step hlt HK.out hno
        by_cases hq : t k = 34
        · have hr : ((run : Int) % 2 == 0) = false := by simp; omega
          have h9 : Hid (¬ t k = 92) := fun h => by omega
          replace hq : (t k == 34) = true := by simpa using hq
          clear hno HK
          go_wp2
          go_round
          case rel => exact ⟨k + 1, 0, by omega, by omega, rfl, rfl, by go_num, by have := HS.out; rwa [if_neg h9.out] at this⟩
          case measure => simp [intOf]; omega
        · replace hq : (t k == 34) = false := by simpa using hq
          clear hno HK
          by_cases h9 : t k = 92
          · have H9 : Hid (t k = 92) := h9
            replace h9 : (t k == 92) = true := by simpa using h9
            go_wp2
            go_round
            case rel => exact ⟨k + 1, run + 1, by omega, by omega, rfl, by go_num, by go_num, by have := HS.out; rwa [if_pos H9.out] at this⟩
            case measure => simp [intOf]; omega
          · have H9 : Hid (¬ t k = 92) := h9
            replace h9 : (t k == 92) = false := by simpa using h9
            go_wp2
            go_round
            case rel => exact ⟨k + 1, 0, by omega, by omega, rfl, rfl, by go_num, by have := HS.out; rwa [if_neg H9.out] at this⟩
            case measure => simp [intOf]; omega
    · exfalso
      have := HK.out
      rw [Pl.fc_end (by omega)] at this
      cases this

theorem strM_any (t : Nat → Int) (ht : ∀ k, 0 ≤ t k ∧ t k ≤ 255) (b off n cap i : Nat) (w : World) (hn : n ≤ 1048576) (hi : i < n)
    (hc : ∀ k, k < n → w.cell? ⟨b, off + k, none⟩ = some (.int .u8 (t k))) :
    Calls Try.prog 17 #[.slice (some ⟨b, off, none⟩) n cap, .int .i64 i] w fun e w' => e = .returned (.int .i64 (Pl.vS t n (i + 1))) ∧ w' = w := by
  rw [Pl.sM_eq_vS t n _ (i + 1) (Nat.le_add_left n _)]
  unfold Pl.sM
  cases hf : Pl.fc t n (i + 1) 0 with
  | none => exact strM_none t b off n cap i w hn hi hc hf
  | some j => exact strM_some t ht b off n cap i j w hn hi hc hf
end Go.Proofs.Qxb6603099a

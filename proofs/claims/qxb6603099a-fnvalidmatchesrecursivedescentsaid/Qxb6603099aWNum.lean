import Derived.Test.Qxb6603099aWDig
import Derived.WalkKit
import Derived.ProofKit
import Derived.Deep.CutRange
import Derived.Deep.CutBlock
namespace Go.Proofs.Qxb6603099a
open Go.ChangeShapes Go.WideShapes Go.ChangeAt Go.RowKit

set_option maxRecDepth 20000 in
set_option maxHeartbeats 1000000 in
theorem numberEnd_any (t : Nat → Int) (b off n cap i : Nat) (w : World) (hn : n ≤ 1048576) (hi : i < n)
    (hc : ∀ k, k < n → w.cell? ⟨b, off + k, none⟩ = some (.int .u8 (t k))) :
    Calls Try.prog 32 #[.slice (some ⟨b, off, none⟩) n cap, .int .i64 i] w fun e w' => e = .returned (.int .i64 (Pl.nE t n i)) ∧ w' = w := by
  have h0 := hc i hi
  have HC : Hid (∀ k, k < n → w.cell? ⟨b, off + k, none⟩ = some (.int .u8 (t k))) := hc
  clear hc
  go_enter Try.func32, Try.ntmps32
  go_upto_if 9 with fail
  go_cut [1] from 5 (fun s w' => s = .int .i64 (Pl.nNeg t i : Nat) ∧ w' = w)
  case first =>
    by_cases h5 : t i = 45
    · have H5 : Hid (t i = 45) := h5
      replace h5 : (t i == 45) = true := by simpa using h5
      go_wp2
      go_meet
      case rel => exact ⟨by unfold Pl.nNeg; rw [if_pos H5.out]; go_num, rfl⟩
    · have H5 : Hid (¬ t i = 45) := h5
      replace h5 : (t i == 45) = false := by simpa using h5
      go_wp2
      go_meet
      case rel => exact ⟨by unfold Pl.nNeg; rw [if_neg H5.out], rfl⟩
  case rest =>
    obtain ⟨rfl, rfl⟩ := hcut
    have hp : Pl.nNeg t i ≤ n := by unfold Pl.nNeg; split <;> omega
    have HN : Hid (Pl.nE t n i = Pl.encN ((Pl.nInt t n (Pl.nNeg t i)).bind fun a => (Pl.nFrac t n a).bind fun b => Pl.nExp t n b)) := rfl
    generalize Pl.nNeg t i = p at hp HN ⊢
    clear h0
    go_upto_block 0 with fail
    go_cut [1] from 5 (fun s w' => ∃ a : Nat, a ≤ n ∧ Pl.nInt t n p = some a ∧ s = .int .i64 a ∧ w' = wc)
    case first =>
      by_cases hlt : p < n
      · have hcp := HC.out p hlt
        by_cases h8 : t p = 48
        · have H8 : Hid (Pl.nInt t n p = some (p + 1)) := by
            have : Pl.nInt t n p = some (p + 1) := by unfold Pl.nInt; rw [if_pos ⟨hlt, h8⟩]
            exact this
          replace h8 : (t p == 48) = true := by simpa using h8
          go_wp2
          go_meet
          case rel => exact ⟨p + 1, by omega, H8.out, by go_num, rfl⟩
        · by_cases hd : 49 ≤ t p ∧ t p ≤ 57
          · have H8 : Hid (Pl.nInt t n p = some (Pl.dE t n p)) := by
              have : Pl.nInt t n p = some (Pl.dE t n p) := by unfold Pl.nInt; rw [if_neg (fun h => h8 h.2), if_pos ⟨hlt, hd⟩]
              exact this
            obtain ⟨hd1, hd2⟩ := hd
            replace h8 : (t p == 48) = false := by simpa using h8
            go_wp2_with (go_at_call 41; refine (digitsEnd_any t b off n cap p _ hn hp HC.out).mono ?_; rintro e w' ⟨rfl, rfl⟩)
            go_meet
            case rel => exact ⟨_, Pl.dE_len t n p hp, H8.out, rfl, rfl⟩
          · have H8 : Hid (Pl.nInt t n p = none) := by
              have : Pl.nInt t n p = none := by unfold Pl.nInt; rw [if_neg (fun h => h8 h.2), if_neg (fun h => hd h.2)]
              exact this
            replace h8 : (t p == 48) = false := by simpa using h8
            by_cases h9 : 49 ≤ t p
            · have h7 : 57 < t p := by omega
              clear hd
              go_wp2
              go_ret
              exact ⟨ret_int (by rw [HN.out, H8.out]; rfl), rfl⟩
            · clear hd
              go_wp2
              go_ret
              exact ⟨ret_int (by rw [HN.out, H8.out]; rfl), rfl⟩
      · have H8 : Hid (Pl.nInt t n p = none) := by
          have : Pl.nInt t n p = none := by unfold Pl.nInt; rw [if_neg (fun h => hlt h.1), if_neg (fun h => hlt h.1)]
          exact this
        go_wp2
        go_ret
        exact ⟨ret_int (by rw [HN.out, H8.out]; rfl), rfl⟩
    case rest =>
      obtain ⟨a, ha, hI, rfl, rfl⟩ := hcut
      have HM : Hid (Pl.nE t n i = Pl.encN ((Pl.nFrac t n a).bind fun b => Pl.nExp t n b)) := by
        have := HN.out
        rw [hI] at this
        exact this
      clear hI HN hp
      go_upto_region 8 with fail
      go_cut [58] from 5 (fun s w' => s = .bool (decide (a < n ∧ t a = 46)) ∧ w' = wc)
      case first =>
        by_cases hlt : a < n
        · have hca := HC.out a hlt
          by_cases h6 : t a = 46
          · have H6 : Hid (decide (a < n ∧ t a = 46) = true) := decide_eq_true ⟨hlt, h6⟩
            replace h6 : (t a == 46) = true := by simpa using h6
            go_wp2
            go_meet
            case rel => exact ⟨by rw [H6.out], rfl⟩
          · have H6 : Hid (decide (a < n ∧ t a = 46) = false) := decide_eq_false (fun h => h6 h.2)
            replace h6 : (t a == 46) = false := by simpa using h6
            go_wp2
            go_meet
            case rel => exact ⟨by rw [H6.out], rfl⟩
        · have H6 : Hid (decide (a < n ∧ t a = 46) = false) := decide_eq_false (fun h => hlt h.1)
          go_wp2
          go_meet
          case rel => exact ⟨by rw [H6.out], rfl⟩
      case rest =>
        obtain ⟨rfl, rfl⟩ := hcut
        go_upto_if 58 with fail
        go_cut [1] from 5 (fun s w' => ∃ d : Nat, d ≤ n ∧ Pl.nFrac t n a = some d ∧ s = .int .i64 d ∧ w' = wc)
        case first =>
          by_cases hf : a < n ∧ t a = 46
          · have ef : Pl.nFrac t n a = if a + 1 < n ∧ Pl.dgB (t (a + 1)) = true then some (Pl.dE t n (a + 1)) else none := by
              unfold Pl.nFrac; rw [if_pos hf]
            have hlt := hf.1
            rw [decide_eq_true hf]
            clear hf
            by_cases h1 : a + 1 < n
            · have hc1 := HC.out (a + 1) h1
              by_cases hd : Pl.dgB (t (a + 1)) = true
              · rw [if_pos ⟨h1, hd⟩] at ef
                have EF : Hid _ := ef
                clear ef
                go_wp2_with (first | (go_at_call 42; refine (isDigit_any _ _).mono ?_; rintro e w' ⟨rfl, rfl⟩) | (go_at_call 41; refine (digitsEnd_any t b off n cap (a + 1) _ hn (by omega) HC.out).mono ?_; rintro e w' ⟨rfl, rfl⟩))
                go_meet
                case rel => exact ⟨_, Pl.dE_len t n (a + 1) (by omega), EF.out, rfl, rfl⟩
              · rw [if_neg (fun h => hd h.2)] at ef
                have EF : Hid _ := ef
                replace hd : Pl.dgB (t (a + 1)) = false := by simpa using hd
                clear ef
                go_wp2_with (first | (go_at_call 42; refine (isDigit_any _ _).mono ?_; rintro e w' ⟨rfl, rfl⟩))
                go_ret
                exact ⟨ret_int (by rw [HM.out, EF.out]; rfl), rfl⟩
            · rw [if_neg (fun h => h1 h.1)] at ef
              have EF : Hid _ := ef
              clear ef
              go_wp2
              go_ret
              exact ⟨ret_int (by rw [HM.out, EF.out]; rfl), rfl⟩
          · have EF : Hid (Pl.nFrac t n a = some a) := by
              have : Pl.nFrac t n a = some a := by unfold Pl.nFrac; rw [if_neg hf]
              exact this
            rw [decide_eq_false hf]
            clear hf
            go_wp2
            go_meet
            case rel => exact ⟨a, ha, EF.out, rfl, rfl⟩
        case rest =>
          obtain ⟨d, hd, hF, rfl, rfl⟩ := hcut
          have HX : Hid (Pl.nE t n i = Pl.encN (Pl.nExp t n d)) := by
            have := HM.out
            rw [hF] at this
            exact this
          clear hF HM ha
          by_cases hlt : d < n
          · have hcd := HC.out d hlt
            by_cases he : t d = 101 ∨ t d = 69
            · have HX' : Hid (Pl.nE t n i = Pl.encN (Pl.nDig t n (Pl.nSgn t n (d + 1)))) := by
                have := HX.out
                unfold Pl.nExp at this
                rw [if_pos ⟨hlt, he⟩] at this
                exact this
              clear HX
              have h93 : Hid (t d = 101 ∨ t d = 69) := he
              clear he
              go_upto_region 13 with fail
              go_cut [93] from 5 (fun s w' => s = .bool true ∧ w' = wc)
              case first =>
                rcases h93.out with he | he
                · replace he : (t d == 101) = true := by simpa using he
                  go_wp2
                  go_meet
                  case rel => exact ⟨rfl, rfl⟩
                · have he1 : (t d == 101) = false := by simp; omega
                  replace he : (t d == 69) = true := by simpa using he
                  go_wp2
                  go_meet
                  case rel => exact ⟨rfl, rfl⟩
              case rest =>
                obtain ⟨rfl, rfl⟩ := hcut
                clear hcd
                go_upto_region 15 with fail
                go_cut [113] from 5 (fun s w' => s = .bool (decide (d + 1 < n ∧ (t (d + 1) = 43 ∨ t (d + 1) = 45))) ∧ w' = wc)
                case first =>
                  by_cases h1 : d + 1 < n
                  · have hc1 := HC.out (d + 1) h1
                    by_cases h3 : t (d + 1) = 43
                    · have H6 : Hid (decide (d + 1 < n ∧ (t (d + 1) = 43 ∨ t (d + 1) = 45)) = true) := decide_eq_true ⟨h1, .inl h3⟩
                      replace h3 : (t (d + 1) == 43) = true := by simpa using h3
                      go_wp2
                      go_meet
                      case rel => exact ⟨by rw [H6.out], rfl⟩
                    · by_cases h5 : t (d + 1) = 45
                      · have H6 : Hid (decide (d + 1 < n ∧ (t (d + 1) = 43 ∨ t (d + 1) = 45)) = true) := decide_eq_true ⟨h1, .inr h5⟩
                        replace h3 : (t (d + 1) == 43) = false := by simpa using h3
                        replace h5 : (t (d + 1) == 45) = true := by simpa using h5
                        go_wp2
                        go_meet
                        case rel => exact ⟨by rw [H6.out], rfl⟩
                      · have H6 : Hid (decide (d + 1 < n ∧ (t (d + 1) = 43 ∨ t (d + 1) = 45)) = false) := decide_eq_false (fun h => by have := h.2; omega)
                        replace h3 : (t (d + 1) == 43) = false := by simpa using h3
                        replace h5 : (t (d + 1) == 45) = false := by simpa using h5
                        go_wp2
                        go_meet
                        case rel => exact ⟨by rw [H6.out], rfl⟩
                  · have H6 : Hid (decide (d + 1 < n ∧ (t (d + 1) = 43 ∨ t (d + 1) = 45)) = false) := decide_eq_false (fun h => h1 h.1)
                    go_wp2
                    go_meet
                    case rel => exact ⟨by rw [H6.out], rfl⟩
                case rest =>
                  obtain ⟨rfl, rfl⟩ := hcut
                  go_upto_if 113 with fail
                  go_cut [1] from 5 (fun s w' => s = .int .i64 (Pl.nSgn t n (d + 1) : Nat) ∧ w' = wc)
                  case first =>
                    by_cases hs : d + 1 < n ∧ (t (d + 1) = 43 ∨ t (d + 1) = 45)
                    · have H6 : Hid (Pl.nSgn t n (d + 1) = d + 2) := by
                        have : Pl.nSgn t n (d + 1) = d + 2 := by unfold Pl.nSgn; rw [if_pos hs]
                        exact this
                      rw [decide_eq_true hs]
                      clear hs
                      go_wp2
                      go_meet
                      case rel => exact ⟨by rw [H6.out]; go_num, rfl⟩
                    · have H6 : Hid (Pl.nSgn t n (d + 1) = d + 1) := by
                        have : Pl.nSgn t n (d + 1) = d + 1 := by unfold Pl.nSgn; rw [if_neg hs]
                        exact this
                      rw [decide_eq_false hs]
                      clear hs
                      go_wp2
                      go_meet
                      case rel => exact ⟨by rw [H6.out]; go_num, rfl⟩
                  case rest =>
                    obtain ⟨rfl, rfl⟩ := hcut
                    have hg : Pl.nSgn t n (d + 1) ≤ n + 1 := by have := (Pl.nSgn_le t n (d + 1)).2; unfold Pl.nSgn; split <;> omega
                    generalize Pl.nSgn t n (d + 1) = g at hg HX' ⊢
                    by_cases hgn : g < n
                    · have hcg := HC.out g hgn
                      by_cases hdg : Pl.dgB (t g) = true
                      · have HZ : Hid (Pl.nE t n i = Pl.dE t n g) := by
                          have := HX'.out
                          unfold Pl.nDig at this
                          rw [if_pos ⟨hgn, hdg⟩] at this
                          exact this
                        go_wp2_with (first | (go_at_call 42; refine (isDigit_any _ _).mono ?_; rintro e w' ⟨rfl, rfl⟩) | (go_at_call 41; refine (digitsEnd_any t b off n cap g _ hn (by omega) HC.out).mono ?_; rintro e w' ⟨rfl, rfl⟩))
                        go_ret
                        exact ⟨ret_int (by rw [HZ.out]), rfl⟩
                      · have HZ : Hid (Pl.nE t n i = -1) := by
                          have := HX'.out
                          unfold Pl.nDig at this
                          rw [if_neg (fun h => hdg h.2)] at this
                          exact this
                        replace hdg : Pl.dgB (t g) = false := by simpa using hdg
                        go_wp2_with (first | (go_at_call 42; refine (isDigit_any _ _).mono ?_; rintro e w' ⟨rfl, rfl⟩))
                        go_ret
                        exact ⟨ret_int (by rw [HZ.out]), rfl⟩
                    · have HZ : Hid (Pl.nE t n i = -1) := by
                        have := HX'.out
                        unfold Pl.nDig at this
                        rw [if_neg (fun h => hgn h.1)] at this
                        exact this
                      go_wp2
                      go_ret
                      exact ⟨ret_int (by rw [HZ.out]), rfl⟩
            · have HX' : Hid (Pl.nE t n i = d) := by
                have := HX.out
                unfold Pl.nExp at this
                rw [if_neg (fun h => he h.2)] at this
                exact this
              have h1 : (t d == 101) = false := by simp; omega
              have h2 : (t d == 69) = false := by simp; omega
              clear HX he
              go_wp2
              go_ret
              exact ⟨ret_int (by rw [HX'.out]), rfl⟩
          · have HX' : Hid (Pl.nE t n i = d) := by
              have := HX.out
              unfold Pl.nExp at this
              rw [if_neg (fun h => hlt h.1)] at this
              exact this
            clear HX
            go_wp2
            go_ret
            exact ⟨ret_int (by rw [HX'.out]), rfl⟩
end Go.Proofs.Qxb6603099a

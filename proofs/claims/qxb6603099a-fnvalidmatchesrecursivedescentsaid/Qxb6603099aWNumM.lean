import Derived.Test.Qxb6603099aProg
import Derived.Test.Qxb6603099aPlainSpan
import Derived.Test.Qxb6603099aWHex2
import Derived.WalkKit
import Derived.ProofKit
namespace Go.Proofs.Qxb6603099a
open Go.ChangeShapes Go.WideShapes Go.ChangeAt Go.RowKit

theorem accepts_any (s : Int) (w : World) :
    Calls Try.prog 34 #[.int .i64 s] w fun e w' => e = .returned (.bool (Pl.acB s)) ∧ w' = w := by
  go_enter Try.func34, Try.ntmps34
  go_wp2
  all_goals
    go_ret
    exact ⟨ret_bool (by simp [Pl.acB, *]), rfl⟩

set_option maxRecDepth 20000 in
set_option maxHeartbeats 1000000 in
theorem step_any (s c : Int) (w : World) :
    Calls Try.prog 33 #[.int .i64 s, .int .u8 c] w fun e w' => e = .returned (.int .i64 (Pl.nsZ s c)) ∧ w' = w := by
  by_cases hd : Pl.dgB c = true
  · go_enter Try.func33, Try.ntmps33
    go_wp2_with (go_at_call 40; refine (zzIsDigit_any _ _).mono ?_; rintro e w' ⟨rfl, rfl⟩)
    all_goals
      go_ret
      exact ⟨ret_int (by simp_all [Pl.nsZ]), rfl⟩
  · replace hd : Pl.dgB c = false := by simpa using hd
    go_enter Try.func33, Try.ntmps33
    go_wp2_with (go_at_call 40; refine (zzIsDigit_any _ _).mono ?_; rintro e w' ⟨rfl, rfl⟩)
    all_goals
      go_ret
      exact ⟨ret_int (by simp_all [Pl.nsZ]), rfl⟩

set_option maxRecDepth 20000 in
theorem numM_any (t : Nat → Int) (b off n cap i : Nat) (w : World) (hn : n ≤ 1048576) (hi : i < n)
    (hc : ∀ k, k < n → w.cell? ⟨b, off + k, none⟩ = some (.int .u8 (t k))) :
    Calls Try.prog 21 #[.slice (some ⟨b, off, none⟩) n cap, .int .i64 i] w fun e w' => e = .returned (.int .i64 (Pl.nE t n i)) ∧ w' = w := by
  have HC : Hid (∀ k, k < n → w.cell? ⟨b, off + k, none⟩ = some (.int .u8 (t k))) := hc
  have HA : Hid (Pl.nE t n i = Pl.am t n 0 i) := Pl.nE_am t n i hi
  clear hc
  go_enter Try.func21, Try.ntmps21
  go_wp2
  go_loop [5, 6] (fun s x => ∃ (q : Int) (k : Nat), k ≤ n ∧ s = .int .i64 q ∧ x = .int .i64 k ∧ Pl.nE t n i = Pl.am t n q k) (fun _ x => n - (intOf x).toNat)
  case atStart => exact ⟨0, i, by omega, rfl, rfl, HA.out⟩
  case round =>
    obtain ⟨q, k, hk, rfl, rfl, he⟩ := hrel
    have HE : Hid _ := he
    clear he
    by_cases hlt : k < n
    · have h0 := HC.out k hlt
      have HQ : Hid _ := Pl.am_eq (t := t) (s := q) hlt
      by_cases hs : Pl.nsZ q (t k) < 0
      · by_cases ha : Pl.acB q = true
        · go_wp2_with (first | (go_at_call 33; refine (step_any _ _ _).mono ?_; rintro e w' ⟨rfl, rfl⟩) | (go_at_call 34; refine (accepts_any _ _).mono ?_; rintro e w' ⟨rfl, rfl⟩))
          go_ret
          exact ⟨ret_int (by rw [HE.out, HQ.out, if_pos hs, if_pos ha]), rfl⟩
        · replace ha : Pl.acB q = false := by simpa using ha
          go_wp2_with (first | (go_at_call 33; refine (step_any _ _ _).mono ?_; rintro e w' ⟨rfl, rfl⟩) | (go_at_call 34; refine (accepts_any _ _).mono ?_; rintro e w' ⟨rfl, rfl⟩))
          go_ret
          exact ⟨ret_int (by rw [HE.out, HQ.out, if_pos hs, if_neg (by rw [ha]; simp)]), rfl⟩
      · go_wp2_with (first | (go_at_call 33; refine (step_any _ _ _).mono ?_; rintro e w' ⟨rfl, rfl⟩))
        go_round
        case rel => exact ⟨_, k + 1, by omega, rfl, by go_num, by rw [HE.out, HQ.out, if_neg (by omega)]⟩
        case measure => simp [intOf]; omega
    · by_cases ha : Pl.acB q = true
      · go_wp2_with (first | (go_at_call 34; refine (accepts_any _ _).mono ?_; rintro e w' ⟨rfl, rfl⟩))
        go_ret
        exact ⟨ret_int (by rw [HE.out, Pl.am_end (by omega), if_pos ha]), rfl⟩
      · replace ha : Pl.acB q = false := by simpa using ha
        go_wp2_with (first | (go_at_call 34; refine (accepts_any _ _).mono ?_; rintro e w' ⟨rfl, rfl⟩))
        go_ret
        exact ⟨ret_int (by rw [HE.out, Pl.am_end (by omega), if_neg (by rw [ha]; simp)]), rfl⟩
end Go.Proofs.Qxb6603099a

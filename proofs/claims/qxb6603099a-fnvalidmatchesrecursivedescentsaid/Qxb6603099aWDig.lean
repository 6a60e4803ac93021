import Derived.Test.Qxb6603099aProg
import Derived.Test.Qxb6603099aPlainSpan
import Derived.Test.Qxb6603099aWHex2
import Derived.WalkKit
import Derived.ProofKit
import Derived.Deep.CutRange
import Derived.Deep.CutBlock
namespace Go.Proofs.Qxb6603099a
open Go.ChangeShapes Go.WideShapes Go.ChangeAt Go.RowKit

theorem isDigit_any (c : Int) (w : World) :
    Calls Try.prog 42 #[.int .u8 c] w fun e w' => e = .returned (.bool (Pl.dgB c)) ∧ w' = w := by
  go_enter Try.func42, Try.ntmps42
  go_wp2
  all_goals
    go_ret
    exact ⟨ret_bool (by rw [Bool.eq_iff_iff]; simp [Pl.dgB]; try omega), rfl⟩

set_option maxRecDepth 20000 in
theorem digitsEnd_any (t : Nat → Int) (b off n cap i : Nat) (w : World) (hn : n ≤ 1048576) (hi : i ≤ n)
    (hc : ∀ k, k < n → w.cell? ⟨b, off + k, none⟩ = some (.int .u8 (t k))) :
    Calls Try.prog 41 #[.slice (some ⟨b, off, none⟩) n cap, .int .i64 i] w fun e w' => e = .returned (.int .i64 (Pl.dE t n i)) ∧ w' = w := by
  have HC : Hid (∀ k, k < n → w.cell? ⟨b, off + k, none⟩ = some (.int .u8 (t k))) := hc
  clear hc
  go_enter Try.func41, Try.ntmps41
  go_wp2
  go_loop [1] (fun x => ∃ k : Nat, k ≤ n ∧ x = .int .i64 k ∧ Pl.dE t n i = Pl.dE t n k) (fun x => n - (intOf x).toNat)
  case atStart => exact ⟨i, hi, rfl, rfl⟩
  case round =>
    obtain ⟨k, hk, rfl, he⟩ := hrel
    have HE : Hid _ := he
    clear he
    by_cases hlt : k < n
    · have h0 := HC.out k hlt
      by_cases hd : Pl.dgB (t k) = true
      · go_wp2_with (go_at_call 42; refine (isDigit_any _ _).mono ?_; rintro e w' ⟨rfl, rfl⟩)
        go_round
        case rel => exact ⟨k + 1, by omega, by go_num, by rw [HE.out, Pl.dE_eq hlt, if_pos hd]⟩
        case measure => simp [intOf]; omega
      · have hd' : Pl.dgB (t k) = false := by simpa using hd
        clear hd
        go_wp2_with (go_at_call 42; refine (isDigit_any _ _).mono ?_; rintro e w' ⟨rfl, rfl⟩)
        go_ret
        exact ⟨ret_int (by rw [HE.out, Pl.dE_eq hlt, if_neg (by rw [hd']; simp)]), rfl⟩
    · go_wp2_with fail
      go_ret
      exact ⟨ret_int (by rw [HE.out, Pl.dE_end (by omega)]), rfl⟩

end Go.Proofs.Qxb6603099a

import Derived.Test.Qxb6603099aProg
import Derived.Test.Qxb6603099aPlainStr2
import Derived.Test.Qxb6603099aPlainNum
import Derived.Test.Qxb6603099aWHex
import Derived.WalkKit
import Derived.ProofKit
namespace Go.Proofs.Qxb6603099a
open Go.ChangeShapes Go.WideShapes Go.ChangeAt Go.RowKit

theorem zzIsDigit_any (c : Int) (w : World) :
    Calls Try.prog 40 #[.int .u8 c] w fun e w' => e = .returned (.bool (Pl.dgB c)) ∧ w' = w := by
  go_enter Try.func40, Try.ntmps40
  go_wp2
  all_goals
    go_ret
    exact ⟨ret_bool (by rw [Bool.eq_iff_iff]; simp [Pl.dgB]; try omega), rfl⟩

theorem hex_or_fin : ∀ m : Fin 256, Pl.hexB (m.val : Int) = (Pl.dgB (m.val : Int) || (decide (97 ≤ bits BinOp.or IntKind.u8 (m.val : Int) 32) && decide (bits BinOp.or IntKind.u8 (m.val : Int) 32 ≤ 102))) := by decide +kernel
theorem hex_or (c : Int) (h0 : 0 ≤ c) (h1 : c ≤ 255) (hd : Pl.dgB c = false) : Pl.hexB c = (decide (97 ≤ bits BinOp.or IntKind.u8 c 32) && decide (bits BinOp.or IntKind.u8 c 32 ≤ 102)) := by
  have := hex_or_fin ⟨c.toNat, by omega⟩
  simp only [show ((c.toNat : Nat) : Int) = c from by omega] at this
  rw [this, hd]; rfl

theorem zzIsHex_any (c : Int) (w : World) (h0 : 0 ≤ c) (h1 : c ≤ 255) :
    Calls Try.prog 31 #[.int .u8 c] w fun e w' => e = .returned (.bool (Pl.hexB c)) ∧ w' = w := by
  by_cases hd : Pl.dgB c = true
  · go_enter Try.func31, Try.ntmps31
    go_wp2_with (go_at_call 40; refine (zzIsDigit_any _ _).mono ?_; rintro e w' ⟨rfl, rfl⟩)
    go_ret
    exact ⟨ret_bool (by rw [Pl.dgB_iff] at hd; rw [Bool.eq_iff_iff]; simp [Pl.hexB]; omega), rfl⟩
  · replace hd : Pl.dgB c = false := by simpa using hd
    go_enter Try.func31, Try.ntmps31
    go_wp2_with (go_at_call 40; refine (zzIsDigit_any _ _).mono ?_; rintro e w' ⟨rfl, rfl⟩)
    all_goals
      go_ret
      exact ⟨ret_bool (by rw [hex_or c h0 h1 hd, Bool.eq_iff_iff]; simp; try omega), rfl⟩
end Go.Proofs.Qxb6603099a

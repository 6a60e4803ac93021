import Derived.Test.Qxb6603127aDoorProg
import Derived.WalkKit
import Derived.ProofKit
import Derived.WalkSpells
import Derived.WalkSmall
import Derived.Laws.IdiomStrings
namespace Go.Proofs.Qxb6603127aDoor
open Go.ChangeShapes Go.WideShapes Go.ChangeAt Go.RowKit
set_option linter.unusedVariables false

theorem hid {p : Prop} (h : p) : Hid p := h
theorem ret_bool {a b : Bool} (h : a = b) : Ending.returned (.bool a) = .returned (.bool b) := by rw [h]
theorem ret_int {k : IntKind} {a b : Int} (h : a = b) : Ending.returned (.int k a) = .returned (.int k b) := by rw [h]

/-- The value of one hexadecimal digit of either case, or -1. -/
def hv (c : Int) : Int := if 48 ≤ c ∧ c ≤ 57 then c - 48 else if 97 ≤ c ∧ c ≤ 102 then c - 87 else if 65 ≤ c ∧ c ≤ 70 then c - 55 else -1
theorem hv_range (c : Int) : hv c = -1 ∨ (0 ≤ hv c ∧ hv c ≤ 15) := by unfold hv; split <;> (try split) <;> (try split) <;> omega

theorem hexValue_any (c : Int) (w : World) (h0 : 0 ≤ c) (h1 : c ≤ 255) :
    Calls Tryd.prog 14 #[.int .u8 c] w fun e w' => e = .returned (.int .i32 (hv c)) ∧ w' = w := by
  go_enter Tryd.func14, Tryd.ntmps14
  go_wp2
  all_goals
    go_ret
    refine ⟨ret_int ?_, rfl⟩
    unfold hv
    (repeat' split) <;> omega

/-- internal/strconv.lower. -/
def low (c : Int) : Int := bits BinOp.or IntKind.u8 c 32
theorem lower_any (c : Int) (w : World) : Calls Tryd.prog 18 #[.int .u8 c] w fun e w' => e = .returned (.int .u8 (low c)) ∧ w' = w := by
  go_enter Tryd.func18, Tryd.ntmps18
  go_wp2
  go_ret
  exact ⟨rfl, rfl⟩
/-- What the digit's switch makes of a byte: which arm, and the digit. -/
theorem low_fin : ∀ m : Fin 256, (48 ≤ (m.val : Int) ∧ (m.val : Int) ≤ 57) ∨
    (¬ (48 ≤ (m.val : Int) ∧ (m.val : Int) ≤ 57) ∧ 97 ≤ low m.val ∧ low m.val ≤ 102 ∧ hv m.val = low m.val - 87) ∨
    (¬ (48 ≤ (m.val : Int) ∧ (m.val : Int) ≤ 57) ∧ 102 < low m.val ∧ low m.val ≤ 122 ∧ hv m.val = -1) ∨
    (¬ (48 ≤ (m.val : Int) ∧ (m.val : Int) ≤ 57) ∧ (low m.val < 97 ∨ 122 < low m.val) ∧ hv m.val = -1) := by decide +kernel
theorem low_cases (c : Int) (h0 : 0 ≤ c) (h1 : c ≤ 255) : (48 ≤ c ∧ c ≤ 57) ∨ (¬ (48 ≤ c ∧ c ≤ 57) ∧ 97 ≤ low c ∧ low c ≤ 102 ∧ hv c = low c - 87) ∨
    (¬ (48 ≤ c ∧ c ≤ 57) ∧ 102 < low c ∧ low c ≤ 122 ∧ hv c = -1) ∨ (¬ (48 ≤ c ∧ c ≤ 57) ∧ (low c < 97 ∨ 122 < low c) ∧ hv c = -1) := by
  have h := low_fin ⟨c.toNat, by omega⟩
  simp only [show ((c.toNat : Nat) : Int) = c from by omega] at h
  exact h
end Go.Proofs.Qxb6603127aDoor

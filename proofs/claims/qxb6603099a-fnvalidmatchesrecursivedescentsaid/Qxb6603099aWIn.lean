import Derived.Test.Qxb6603099aProg
import Derived.WalkKit
import Derived.ProofKit
import Derived.OpenShut
import Derived.Clock
namespace Go.Proofs.Qxb6603099a
open Go.ChangeShapes Go.WideShapes Go.ChangeAt Go.RowKit

/-- What the walks are told of a slice of bytes that came in: its bytes t; it is empty, or it lies in an old block. -/
theorem row_open {w : World} {a : Option Addr} {len cap : Nat} {zs : List Int}
    (h : (a = none ∧ len = 0 ∧ cap = 0 ∧ zs = []) ∨ ∃ x, a = some x ∧ len ≤ cap ∧ cap ≤ maxLen ∧ zs.length = cap ∧ (∀ i, i < zs.length → w.cell? (x.add i) = some (.int .u8 (zs.getD i 0))) ∧ ∀ n ∈ zs, (Lit.int .u8 n).wf = true) :
    len ≤ maxLen ∧ ∃ t : Nat → Int, (∀ k, 0 ≤ t k ∧ t k ≤ 255) ∧ (len = 0 ∨ ∃ b off, a = some ⟨b, off, none⟩ ∧ b < w.heap.size ∧ ∀ k, k < len → w.cell? ⟨b, off + k, none⟩ = some (.int .u8 (t k))) := by
  rcases h with ⟨_, rfl, _, _⟩ | ⟨x, rfl, hl, hm, hz, hc, hw⟩
  · exact ⟨Nat.zero_le _, fun _ => 0, fun _ => ⟨Int.le_refl _, by show (0 : Int) ≤ 255; omega⟩, .inl rfl⟩
  · refine ⟨by omega, fun k => zs[k]?.getD 0, fun k => range_u8 hw k, ?_⟩
    by_cases h0 : len = 0
    · exact .inl h0
    · obtain ⟨b, off, rfl, hc'⟩ := ints_at hc (by omega)
      refine .inr ⟨b, off, rfl, Go.Clock.block_lt (hc' 0 (by omega)), fun k hk => ?_⟩
      rw [hc' k (by omega)]; simp

theorem bytes18_yes (a : Option Addr) (n cap : Nat) (i : Int) (w : World) (h : n ≤ 1048576) :
    Calls Try.prog 18 #[.slice a n cap, .int .i64 i] w fun e w' => e = .returned (.bool true) ∧ w' = w := by
  go_enter Try.func18, Try.ntmps18
  go_wp2
  go_ret
  exact ⟨rfl, rfl⟩
theorem bytes18_no (a : Option Addr) (n cap : Nat) (i : Int) (w : World) (h : 1048576 < n) :
    Calls Try.prog 18 #[.slice a n cap, .int .i64 i] w fun e w' => e = .returned (.bool false) ∧ w' = w := by
  go_enter Try.func18, Try.ntmps18
  go_wp2
  go_ret
  exact ⟨rfl, rfl⟩
theorem bytes15_yes (a : Option Addr) (n cap : Nat) (i : Int) (w : World) (h : n ≤ 1048576) :
    Calls Try.prog 15 #[.slice a n cap, .int .i64 i] w fun e w' => e = .returned (.bool true) ∧ w' = w := by
  go_enter Try.func15, Try.ntmps15
  go_wp2
  go_ret
  exact ⟨rfl, rfl⟩
theorem bytes15_no (a : Option Addr) (n cap : Nat) (i : Int) (w : World) (h : 1048576 < n) :
    Calls Try.prog 15 #[.slice a n cap, .int .i64 i] w fun e w' => e = .returned (.bool false) ∧ w' = w := by
  go_enter Try.func15, Try.ntmps15
  go_wp2
  go_ret
  exact ⟨rfl, rfl⟩
theorem bytes19_yes (a : Option Addr) (n cap : Nat) (i : Int) (w : World) (h : n ≤ 1048576) :
    Calls Try.prog 19 #[.slice a n cap, .int .i64 i] w fun e w' => e = .returned (.bool true) ∧ w' = w := by
  go_enter Try.func19, Try.ntmps19
  go_wp2
  go_ret
  exact ⟨rfl, rfl⟩
theorem bytes19_no (a : Option Addr) (n cap : Nat) (i : Int) (w : World) (h : 1048576 < n) :
    Calls Try.prog 19 #[.slice a n cap, .int .i64 i] w fun e w' => e = .returned (.bool false) ∧ w' = w := by
  go_enter Try.func19, Try.ntmps19
  go_wp2
  go_ret
  exact ⟨rfl, rfl⟩
theorem bytes22_yes (a : Option Addr) (n cap : Nat) (i : Int) (w : World) (h : n ≤ 1048576) :
    Calls Try.prog 22 #[.slice a n cap, .int .i64 i] w fun e w' => e = .returned (.bool true) ∧ w' = w := by
  go_enter Try.func22, Try.ntmps22
  go_wp2
  go_ret
  exact ⟨rfl, rfl⟩
theorem bytes22_no (a : Option Addr) (n cap : Nat) (i : Int) (w : World) (h : 1048576 < n) :
    Calls Try.prog 22 #[.slice a n cap, .int .i64 i] w fun e w' => e = .returned (.bool false) ∧ w' = w := by
  go_enter Try.func22, Try.ntmps22
  go_wp2
  go_ret
  exact ⟨rfl, rfl⟩
theorem bytes9_yes (a : Option Addr) (n cap : Nat) (w : World) (h : n ≤ 1048576) :
    Calls Try.prog 9 #[.slice a n cap] w fun e w' => e = .returned (.bool true) ∧ w' = w := by
  go_enter Try.func9, Try.ntmps9
  go_wp2
  go_ret
  exact ⟨rfl, rfl⟩
theorem bytes9_no (a : Option Addr) (n cap : Nat) (w : World) (h : 1048576 < n) :
    Calls Try.prog 9 #[.slice a n cap] w fun e w' => e = .returned (.bool false) ∧ w' = w := by
  go_enter Try.func9, Try.ntmps9
  go_wp2
  go_ret
  exact ⟨rfl, rfl⟩
end Go.Proofs.Qxb6603099a

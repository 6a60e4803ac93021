import Derived.Test.Qxb6603099aProg
import Derived.WalkKit
import Derived.ProofKit
import Derived.Below
import Derived.Test.Qxb6603099aWClone
import Derived.Test.Qxb6603099aWIn
import Derived.Test.Qxb6603099aWNum
import Derived.Test.Qxb6603099aWNumM
namespace Go.Proofs.Qxb6603099a.NumAuto
open Go.ChangeShapes Go.WideShapes Go.ChangeAt Go.RowKit

theorem zzn (t : Nat → Int) (b off n cap i : Nat) (w : World) (hn : n ≤ 1048576) (hi : i < n)
    (hc : ∀ k, k < n → w.cell? ⟨b, off + k, none⟩ = some (.int .u8 (t k))) :
    Calls Try.prog 20 #[.slice (some ⟨b, off, none⟩) n cap, .int .i64 i] w fun e w' => e = .returned (.int .i64 (Pl.nE t n i)) ∧ w' = w := by
  go_enter Try.func20, Try.ntmps20
  go_wp2_with (go_at_call 32; refine (numberEnd_any t b off n cap i _ hn hi hc).mono ?_; rintro e w' ⟨rfl, rfl⟩)
  go_ret
  exact ⟨rfl, rfl⟩

theorem small (a : Option Addr) (n cap : Nat) (i : Int) (w : World) (hn : n ≤ 1048576) (hi : i < 0 ∨ (n : Int) ≤ i) :
    Calls Try.prog 7 #[.slice a n cap, .int .i64 i] w fun e w' => e = .returned (.bool true) ∧ Below w.heap.size w w' := by
  rcases hi with hi | hi
  · go_enter Try.func7, Try.ntmps7
    go_wp2_with (go_at_call 19; refine (bytes19_yes _ _ _ _ _ hn).mono ?_; rintro e w' ⟨rfl, rfl⟩)
    go_ret
    exact ⟨rfl, Below.refl _ _⟩
  · by_cases h0 : i < 0
    · omega
    · go_enter Try.func7, Try.ntmps7
      go_wp2_with (go_at_call 19; refine (bytes19_yes _ _ _ _ _ hn).mono ?_; rintro e w' ⟨rfl, rfl⟩)
      go_ret
      exact ⟨rfl, Below.refl _ _⟩

theorem large (a : Option Addr) (n cap : Nat) (i : Int) (w : World) (hn : 1048576 < n) :
    Calls Try.prog 7 #[.slice a n cap, .int .i64 i] w fun e w' => e = .returned (.bool true) ∧ Below w.heap.size w w' := by
  go_enter Try.func7, Try.ntmps7
  go_wp2_with (go_at_call 19; refine (bytes19_no _ _ _ _ _ hn).mono ?_; rintro e w' ⟨rfl, rfl⟩)
  go_ret
  exact ⟨rfl, Below.refl _ _⟩

theorem main (t : Nat → Int) (b off n cap i : Nat) (w : World) (hn : n ≤ 1048576) (hi : i < n) (hb : b < w.heap.size)
    (hc : ∀ k, k < n → w.cell? ⟨b, off + k, none⟩ = some (.int .u8 (t k))) :
    Calls Try.prog 7 #[.slice (some ⟨b, off, none⟩) n cap, .int .i64 i] w fun e w' => e = .returned (.bool true) ∧ Below w.heap.size w w' := by
  have HC : Hid (∀ k, k < n → w.cell? ⟨b, off + k, none⟩ = some (.int .u8 (t k))) := hc
  clear hc
  go_enter Try.func7, Try.ntmps7
  go_wp2_with (first | (go_at_call 19; refine (bytes19_yes _ _ _ _ _ hn).mono ?_; rintro e w' ⟨rfl, rfl⟩))
  refine (clone_any t b off n cap _ hn (.inr hb) HC.out).mono ?_
  rintro e w1 ⟨rfl, hc1, hb1⟩
  have HC1 : Hid _ := hc1
  have HB1 : Hid _ := hb1
  clear hc1 hb1
  go_wp2_with fail
  refine (zzn t _ 0 n n i w1 hn hi HC1.out).mono ?_
  rintro e w2 ⟨rfl, rfl⟩
  go_wp2_with fail
  refine (numM_any t _ 0 n n i _ hn hi HC1.out).mono ?_
  rintro e w3 ⟨rfl, rfl⟩
  go_wp2_with fail
  go_ret
  exact ⟨by simp, HB1.out⟩

/-- Every input. -/
theorem auto_any (a : Option Addr) (n cap : Nat) (i : Int) (zs : List Int) (w : World)
    (h : (a = none ∧ n = 0 ∧ cap = 0 ∧ zs = []) ∨ ∃ x, a = some x ∧ n ≤ cap ∧ cap ≤ maxLen ∧ zs.length = cap ∧ (∀ i, i < zs.length → w.cell? (x.add i) = some (.int .u8 (zs.getD i 0))) ∧ ∀ n ∈ zs, (Lit.int .u8 n).wf = true) :
    Calls Try.prog 7 #[.slice a n cap, .int .i64 i] w fun e w' => e = .returned (.bool true) ∧ Below w.heap.size w w' := by
  obtain ⟨hm, t, ht, hrow⟩ := row_open h
  by_cases hn : n ≤ 1048576
  · by_cases hi : i < 0 ∨ (n : Int) ≤ i
    · exact small a n cap i w hn hi
    · obtain ⟨i, rfl⟩ : ∃ m : Nat, i = m := ⟨i.toNat, by omega⟩
      rcases hrow with rfl | ⟨b, off, rfl, hb, hc⟩
      · omega
      · exact main t b off n cap i w hn (by omega) hb hc
  · exact large a n cap i w (by omega)

end Go.Proofs.Qxb6603099a.NumAuto

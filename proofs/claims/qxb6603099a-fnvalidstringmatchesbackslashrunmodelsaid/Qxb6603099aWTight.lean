import Derived.Test.Qxb6603099aProg
import Derived.WalkKit
import Derived.ProofKit
import Derived.Below
import Derived.Test.Qxb6603099aPlainStr2
import Derived.Test.Qxb6603099aWHex
import Derived.Test.Qxb6603099aWClone
import Derived.Test.Qxb6603099aWIn
namespace Go.Proofs.Qxb6603099a.Tight
open Go.ChangeShapes Go.WideShapes Go.ChangeAt Go.RowKit

theorem zzv (t : Nat → Int) (b off n cap i : Nat) (w : World) (hn : n ≤ 1048576) (hi : i < n)
    (hc : ∀ k, k < n → w.cell? ⟨b, off + k, none⟩ = some (.int .u8 (t k))) :
    Calls Try.prog 16 #[.slice (some ⟨b, off, none⟩) n cap, .int .i64 i] w fun e w' => e = .returned (.int .i64 (Pl.vS t n (i + 1))) ∧ w' = w := by
  go_enter Try.func16, Try.ntmps16
  go_wp2_with (go_at_call 30; refine (validString_any t b off n cap i _ hn hi hc).mono ?_; rintro e w' ⟨rfl, rfl⟩)
  go_ret
  exact ⟨rfl, rfl⟩

theorem small (a : Option Addr) (n cap : Nat) (i : Int) (w : World) (hn : n ≤ 1048576) (hi : i < 0 ∨ (n : Int) ≤ i) :
    Calls Try.prog 6 #[.slice a n cap, .int .i64 i] w fun e w' => e = .returned (.bool true) ∧ Below w.heap.size w w' := by
  rcases hi with hi | hi
  · go_enter Try.func6, Try.ntmps6
    go_wp2_with (go_at_call 18; refine (bytes18_yes _ _ _ _ _ hn).mono ?_; rintro e w' ⟨rfl, rfl⟩)
    go_ret
    exact ⟨rfl, Below.refl _ _⟩
  · by_cases h0 : i < 0
    · omega
    · go_enter Try.func6, Try.ntmps6
      go_wp2_with (go_at_call 18; refine (bytes18_yes _ _ _ _ _ hn).mono ?_; rintro e w' ⟨rfl, rfl⟩)
      go_ret
      exact ⟨rfl, Below.refl _ _⟩

theorem large (a : Option Addr) (n cap : Nat) (i : Int) (w : World) (hn : 1048576 < n) :
    Calls Try.prog 6 #[.slice a n cap, .int .i64 i] w fun e w' => e = .returned (.bool true) ∧ Below w.heap.size w w' := by
  go_enter Try.func6, Try.ntmps6
  go_wp2_with (go_at_call 18; refine (bytes18_no _ _ _ _ _ hn).mono ?_; rintro e w' ⟨rfl, rfl⟩)
  go_ret
  exact ⟨rfl, Below.refl _ _⟩

theorem unquoted (t : Nat → Int) (b off n cap i : Nat) (w : World) (hn : n ≤ 1048576) (hi : i < n) (hq : (t i != 34) = true)
    (hc : ∀ k, k < n → w.cell? ⟨b, off + k, none⟩ = some (.int .u8 (t k))) :
    Calls Try.prog 6 #[.slice (some ⟨b, off, none⟩) n cap, .int .i64 i] w fun e w' => e = .returned (.bool true) ∧ Below w.heap.size w w' := by
  have h0 := hc i hi
  clear hc
  go_enter Try.func6, Try.ntmps6
  go_wp2_with (go_at_call 18; refine (bytes18_yes _ _ _ _ _ hn).mono ?_; rintro e w' ⟨rfl, rfl⟩)
  go_ret
  exact ⟨rfl, Below.refl _ _⟩

theorem fails (t : Nat → Int) (b off n cap i : Nat) (w : World) (hn : n ≤ 1048576) (hi : i < n) (hq : (t i != 34) = false) (hb : b < w.heap.size)
    (hc : ∀ k, k < n → w.cell? ⟨b, off + k, none⟩ = some (.int .u8 (t k))) (hv : Pl.vS t n (i + 1) = -1) :
    Calls Try.prog 6 #[.slice (some ⟨b, off, none⟩) n cap, .int .i64 i] w fun e w' => e = .returned (.bool true) ∧ Below w.heap.size w w' := by
  have h0 := hc i hi
  have HC : Hid (∀ k, k < n → w.cell? ⟨b, off + k, none⟩ = some (.int .u8 (t k))) := hc
  have HV : Hid (Pl.vS t n (i + 1) = -1) := hv
  clear hc hv
  by_cases h1 : i + 1 < n
  · go_enter Try.func6, Try.ntmps6
    go_wp2_with (first | (go_at_call 18; refine (bytes18_yes _ _ _ _ _ hn).mono ?_; rintro e w' ⟨rfl, rfl⟩))
    refine (clone_any t b off n cap _ hn (.inr hb) HC.out).mono ?_
    rintro e w1 ⟨rfl, hc1, hb1⟩
    have HC1 : Hid _ := hc1
    have HB1 : Hid _ := hb1
    clear hc1 hb1
    go_wp2_with fail
    refine (zzv t _ 0 n n i w1 hn hi HC1.out).mono ?_
    rintro e w2 ⟨rfl, rfl⟩
    rw [HV.out]
    go_wp2_with fail
    refine (zzv t _ 0 (n - 1) n i _ (by omega) (by omega) (fun k hk => HC1.out k (by omega))).mono ?_
    rintro e w3 ⟨rfl, rfl⟩
    rw [Pl.tight_fail t n (n - 1) (i + 1) HV.out (by omega)]
    go_wp2_with fail
    go_ret
    exact ⟨rfl, HB1.out⟩
  · go_enter Try.func6, Try.ntmps6
    go_wp2_with (first | (go_at_call 18; refine (bytes18_yes _ _ _ _ _ hn).mono ?_; rintro e w' ⟨rfl, rfl⟩))
    refine (clone_any t b off n cap _ hn (.inr hb) HC.out).mono ?_
    rintro e w1 ⟨rfl, hc1, hb1⟩
    have HC1 : Hid _ := hc1
    have HB1 : Hid _ := hb1
    clear hc1 hb1
    go_wp2_with fail
    refine (zzv t _ 0 n n i w1 hn hi HC1.out).mono ?_
    rintro e w2 ⟨rfl, rfl⟩
    rw [HV.out]
    go_wp2_with fail
    go_ret
    exact ⟨rfl, HB1.out⟩

theorem ends (t : Nat → Int) (b off n cap i r : Nat) (w : World) (hn : n ≤ 1048576) (hi : i < n) (hq : (t i != 34) = false) (hb : b < w.heap.size)
    (hc : ∀ k, k < n → w.cell? ⟨b, off + k, none⟩ = some (.int .u8 (t k))) (hv : Pl.vS t n (i + 1) = r) (hr1 : i + 1 < r) (hr2 : r ≤ n) (hr3 : t (r - 1) = 34) :
    Calls Try.prog 6 #[.slice (some ⟨b, off, none⟩) n cap, .int .i64 i] w fun e w' => e = .returned (.bool true) ∧ Below w.heap.size w w' := by
  have h0 := hc i hi
  have HC : Hid (∀ k, k < n → w.cell? ⟨b, off + k, none⟩ = some (.int .u8 (t k))) := hc
  have HV : Hid (Pl.vS t n (i + 1) = r) := hv
  have HR : Hid (t (r - 1) = 34) := hr3
  clear hc hv hr3
  go_enter Try.func6, Try.ntmps6
  go_wp2_with (first | (go_at_call 18; refine (bytes18_yes _ _ _ _ _ hn).mono ?_; rintro e w' ⟨rfl, rfl⟩))
  refine (clone_any t b off n cap _ hn (.inr hb) HC.out).mono ?_
  rintro e w1 ⟨rfl, hc1, hb1⟩
  have HC1 : Hid _ := hc1
  have HB1 : Hid _ := hb1
  have hl := hc1 (r - 1) (by omega)
  rw [HR.out, Nat.zero_add] at hl
  clear hc1 hb1
  go_wp2_with fail
  refine (zzv t _ 0 n n i w1 hn hi HC1.out).mono ?_
  rintro e w2 ⟨rfl, rfl⟩
  rw [HV.out]
  go_wp2_with fail
  refine (zzv t _ 0 r n i _ (by omega) (by omega) (fun k hk => HC1.out k (by omega))).mono ?_
  rintro e w3 ⟨rfl, rfl⟩
  rw [Pl.tight_cut t n (i + 1) r HV.out]
  go_wp2_with fail
  refine (zzv t _ 0 (r - 1) n i _ (by omega) (by omega) (fun k hk => HC1.out k (by omega))).mono ?_
  rintro e w4 ⟨rfl, rfl⟩
  rw [Pl.tight_short t n (i + 1) r HV.out]
  go_wp2_with fail
  go_ret
  exact ⟨rfl, HB1.out⟩

/-- Every input. -/
theorem tight_any (a : Option Addr) (n cap : Nat) (i : Int) (zs : List Int) (w : World)
    (h : (a = none ∧ n = 0 ∧ cap = 0 ∧ zs = []) ∨ ∃ x, a = some x ∧ n ≤ cap ∧ cap ≤ maxLen ∧ zs.length = cap ∧ (∀ i, i < zs.length → w.cell? (x.add i) = some (.int .u8 (zs.getD i 0))) ∧ ∀ n ∈ zs, (Lit.int .u8 n).wf = true) :
    Calls Try.prog 6 #[.slice a n cap, .int .i64 i] w fun e w' => e = .returned (.bool true) ∧ Below w.heap.size w w' := by
  obtain ⟨hm, t, ht, hrow⟩ := row_open h
  by_cases hn : n ≤ 1048576
  · by_cases hi : i < 0 ∨ (n : Int) ≤ i
    · exact small a n cap i w hn hi
    · obtain ⟨i, rfl⟩ : ∃ m : Nat, i = m := ⟨i.toNat, by omega⟩
      rcases hrow with rfl | ⟨b, off, rfl, hb, hc⟩
      · omega
      · by_cases hq : (t i != 34) = true
        · exact unquoted t b off n cap i w hn (by omega) hq hc
        · replace hq : (t i != 34) = false := by simpa using hq
          rcases Pl.vS_range t n _ (i + 1) (Nat.le_add_left n _) with hv | ⟨r, hv, h1, h2, h3⟩
          · exact fails t b off n cap i w hn (by omega) hq hb hc hv
          · exact ends t b off n cap i r w hn (by omega) hq hb hc hv h1 h2 h3
  · exact large a n cap i w (by omega)

end Go.Proofs.Qxb6603099a.Tight

import Derived.Test.Qxb6603099aProg
import Derived.WalkKit
import Derived.ProofKit
import Derived.Below
import Derived.Test.Qxb6603099aWAuto
import Derived.Test.Qxb6603099aWValid
namespace Go.Proofs.Qxb6603099a.Span
open Go.ChangeShapes Go.WideShapes Go.ChangeAt Go.RowKit

/-- A number alone is valid. -/
theorem vd_num {t : Nat → Int} {n : Nat} (h : Pl.nO t n 0 = some n) : Pl.vd t n = true := by
  have hn := (Pl.nO_cut h).1
  have hh := Pl.nO_head h
  have hs : Pl.sk t n 0 = 0 := by rw [Pl.sk_eq hn, if_neg (by simp [Pl.spB]; omega)]
  have hsc : Pl.sc t n 0 = n := by
    unfold Pl.sc
    rw [if_neg (by omega), if_neg (by omega), if_neg (by omega), if_neg (by omega), if_neg (by omega)]
    unfold Pl.nE; rw [h]; rfl
  unfold Pl.vd
  rw [hs, Pl.mc_scal (by omega), hsc, Pl.aft_nat, Pl.mc_nil, Pl.sk_end (Nat.le_refl n)]
  simp

theorem small (a : Option Addr) (n cap : Nat) (i : Int) (w : World) (hn : n ≤ 1048576) (hi : i < 0 ∨ (n : Int) ≤ i) :
    Calls Try.prog 8 #[.slice a n cap, .int .i64 i] w fun e w' => e = .returned (.bool true) ∧ Below w.heap.size w w' := by
  rcases hi with hi | hi
  · go_enter Try.func8, Try.ntmps8
    go_wp2_with (go_at_call 22; refine (bytes22_yes _ _ _ _ _ hn).mono ?_; rintro e w' ⟨rfl, rfl⟩)
    go_ret
    exact ⟨rfl, Below.refl _ _⟩
  · by_cases h0 : i < 0
    · omega
    · go_enter Try.func8, Try.ntmps8
      go_wp2_with (go_at_call 22; refine (bytes22_yes _ _ _ _ _ hn).mono ?_; rintro e w' ⟨rfl, rfl⟩)
      go_ret
      exact ⟨rfl, Below.refl _ _⟩

theorem large (a : Option Addr) (n cap : Nat) (i : Int) (w : World) (hn : 1048576 < n) :
    Calls Try.prog 8 #[.slice a n cap, .int .i64 i] w fun e w' => e = .returned (.bool true) ∧ Below w.heap.size w w' := by
  go_enter Try.func8, Try.ntmps8
  go_wp2_with (go_at_call 22; refine (bytes22_no _ _ _ _ _ hn).mono ?_; rintro e w' ⟨rfl, rfl⟩)
  go_ret
  exact ⟨rfl, Below.refl _ _⟩

theorem fails (t : Nat → Int) (b off n cap i : Nat) (w : World) (hn : n ≤ 1048576) (hi : i < n) (hb : b < w.heap.size)
    (hc : ∀ k, k < n → w.cell? ⟨b, off + k, none⟩ = some (.int .u8 (t k))) (hv : Pl.nO t n i = none) :
    Calls Try.prog 8 #[.slice (some ⟨b, off, none⟩) n cap, .int .i64 i] w fun e w' => e = .returned (.bool true) ∧ Below w.heap.size w w' := by
  have HC : Hid (∀ k, k < n → w.cell? ⟨b, off + k, none⟩ = some (.int .u8 (t k))) := hc
  have HV : Hid (Pl.nE t n i = -1) := by
    have : Pl.nE t n i = -1 := by unfold Pl.nE; rw [hv]; rfl
    exact this
  clear hc hv
  go_enter Try.func8, Try.ntmps8
  go_wp2_with (first | (go_at_call 22; refine (bytes22_yes _ _ _ _ _ hn).mono ?_; rintro e w' ⟨rfl, rfl⟩))
  refine (clone_any t b off n cap _ hn (.inr hb) HC.out).mono ?_
  rintro e w1 ⟨rfl, hc1, hb1⟩
  have HC1 : Hid _ := hc1
  have HB1 : Hid _ := hb1
  clear hc1 hb1
  go_wp2_with fail
  refine (NumAuto.zzn t _ 0 n n i w1 hn hi HC1.out).mono ?_
  rintro e w2 ⟨rfl, rfl⟩
  rw [HV.out]
  go_wp2_with fail
  go_ret
  exact ⟨rfl, HB1.out⟩

theorem ends (t : Nat → Int) (ht : ∀ k, 0 ≤ t k ∧ t k ≤ 255) (b off n cap i r : Nat) (w : World) (hn : n ≤ 1048576) (hi : i < n) (hb : b < w.heap.size)
    (hc : ∀ k, k < n → w.cell? ⟨b, off + k, none⟩ = some (.int .u8 (t k))) (hv : Pl.nO t n i = some r) :
    Calls Try.prog 8 #[.slice (some ⟨b, off, none⟩) n cap, .int .i64 i] w fun e w' => e = .returned (.bool true) ∧ Below w.heap.size w w' := by
  have HC : Hid (∀ k, k < n → w.cell? ⟨b, off + k, none⟩ = some (.int .u8 (t k))) := hc
  have HT : Hid (∀ k, 0 ≤ t k ∧ t k ≤ 255) := ht
  obtain ⟨hr1, hr2, hr3⟩ := Pl.nO_cut hv
  have HV : Hid (Pl.nE t n i = r) := by
    have : Pl.nE t n i = r := by unfold Pl.nE; rw [hv]; rfl
    exact this
  have HR : Hid (Pl.nE t r i = r) := by
    have : Pl.nE t r i = r := by unfold Pl.nE; rw [hr3]; rfl
    exact this
  have HD : Hid (Pl.vd (fun x => t (i + x)) (r - i) = true) := vd_num (Pl.nO_span hv)
  clear hc hv ht hr3
  go_enter Try.func8, Try.ntmps8
  go_wp2_with (first | (go_at_call 22; refine (bytes22_yes _ _ _ _ _ hn).mono ?_; rintro e w' ⟨rfl, rfl⟩))
  refine (clone_any t b off n cap _ hn (.inr hb) HC.out).mono ?_
  rintro e w1 ⟨rfl, hc1, hb1⟩
  have HC1 : Hid _ := hc1
  have HB1 : Hid _ := hb1
  clear hc1 hb1
  go_wp2_with fail
  refine (NumAuto.zzn t _ 0 n n i w1 hn hi HC1.out).mono ?_
  rintro e w2 ⟨rfl, rfl⟩
  rw [HV.out]
  go_wp2_with fail
  refine (NumAuto.zzn t _ 0 r n i _ (by omega) (by omega) (fun k hk => HC1.out k (by omega))).mono ?_
  rintro e w3 ⟨rfl, rfl⟩
  rw [HR.out]
  go_wp2_with fail
  refine (valid_any (fun x => t (i + x)) (fun k => HT.out (i + k)) _ i (r - i) (n - i) w3 (by omega) (by omega) (.inr (by exact Go.Clock.block_lt (HC1.out i hi))) (fun k hk => by
    have := HC1.out (i + k) (by omega)
    rw [Nat.zero_add] at this
    exact this)).mono ?_
  rintro e w4 ⟨rfl, hb4⟩
  have HB4 : Hid _ := hb4
  clear hb4
  rw [HD.out]
  go_wp2_with fail
  go_ret
  exact ⟨rfl, HB1.out.trans (HB4.out.mono HB1.out.size)⟩

/-- Every input. -/
theorem span_any (a : Option Addr) (n cap : Nat) (i : Int) (zs : List Int) (w : World)
    (h : (a = none ∧ n = 0 ∧ cap = 0 ∧ zs = []) ∨ ∃ x, a = some x ∧ n ≤ cap ∧ cap ≤ maxLen ∧ zs.length = cap ∧ (∀ i, i < zs.length → w.cell? (x.add i) = some (.int .u8 (zs.getD i 0))) ∧ ∀ n ∈ zs, (Lit.int .u8 n).wf = true) :
    Calls Try.prog 8 #[.slice a n cap, .int .i64 i] w fun e w' => e = .returned (.bool true) ∧ Below w.heap.size w w' := by
  obtain ⟨hm, t, ht, hrow⟩ := row_open h
  by_cases hn : n ≤ 1048576
  · by_cases hi : i < 0 ∨ (n : Int) ≤ i
    · exact small a n cap i w hn hi
    · obtain ⟨i, rfl⟩ : ∃ m : Nat, i = m := ⟨i.toNat, by omega⟩
      rcases hrow with rfl | ⟨b, off, rfl, hb, hc⟩
      · omega
      · cases hv : Pl.nO t n i with
        | none => exact fails t b off n cap i w hn (by omega) hb hc hv
        | some r => exact ends t ht b off n cap i r w hn (by omega) hb hc hv
  · exact large a n cap i w (by omega)

end Go.Proofs.Qxb6603099a.Span

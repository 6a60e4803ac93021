import Derived.Test.Qxb6603099aWVal
import Derived.Test.Qxb6603099aWValid
import Derived.Test.Qxb6603099aWIn
import Derived.WalkSpells
namespace Go.Proofs.Qxb6603099a.Rec
open Go.ChangeShapes Go.WideShapes Go.ChangeAt Go.RowKit
set_option linter.unusedVariables false

/-! ### An empty text that is not nil -/
theorem clone_empty (x : Addr) (cap : Nat) (w : World) :
    Calls Try.prog 10 #[.slice (some x) 0 cap] w fun e w' => e = .returned (.slice (some ⟨w.heap.size, 0, none⟩) 0 0) ∧ Below w.heap.size w w' := by
  obtain ⟨i0, hi, hz0, hz1, hz2⟩ := info_parts Try.info5
  have heq := fun wx => Lib.run_eql_slice_nil (P := Try.prog) wx 22 5 (some x) 0 cap 0 0 Try.underlying22
  go_enter Try.func10, Try.ntmps10
  go_wp2_with (at_make; refine wpList_make_full _ rfl _ _ 22 rfl w.heap.size 5 i0 (.int .u8 0) 1 Try.underlying22 hi hz0 hz1 .i64 .i64 0 0 0 rfl rfl rfl rfl (by omega) (by unfold maxLen; omega) (Nat.le_refl _) ?_)
  intro w1 hown hgr
  have HB : Hid (Below w.heap.size w w1) := (Below.refl _ _).grown hgr (Nat.le_refl _) (fun k h => by cases h)
  clear hgr hown
  go_wp2
  go_loopw [4] (fun y wr => y = .int .i64 0 ∧ Below w.heap.size w wr) (fun y _ => 0)
  case atStart => exact ⟨rfl, HB.out⟩
  case round =>
    obtain ⟨rfl, hb⟩ := hrel
    have HB2 : Hid (Below w.heap.size w wr) := hb
    clear hb
    go_wp2
    go_ret
    exact ⟨rfl, HB2.out⟩

/-! ### The nil text -/
theorem skip_nil (w : World) : Calls Try.prog 23 #[.slice none 0 0, .int .i64 0] w fun e w' => e = .returned (.int .i64 0) ∧ w' = w := by
  go_enter Try.func23, Try.ntmps23
  go_wp2
  go_loop [1] (fun x => x = .int .i64 0) (fun x => 0)
  case atStart => rfl
  case round =>
    subst hrel
    go_wp2
    go_ret
    exact ⟨rfl, rfl⟩
theorem zzSkip_nil (w : World) : Calls Try.prog 28 #[.slice none 0 0, .int .i64 0] w fun e w' => e = .returned (.int .i64 0) ∧ w' = w := by
  go_enter Try.func28, Try.ntmps28
  go_wp2
  go_loop [1] (fun x => x = .int .i64 0) (fun x => 0)
  case atStart => rfl
  case round =>
    subst hrel
    go_wp2
    go_ret
    exact ⟨rfl, rfl⟩
theorem scalar_nil (w : World) : Calls Try.prog 26 #[.slice none 0 0, .int .i64 0] w fun e w' => e = .returned (.int .i64 (-1)) ∧ w' = w := by
  go_enter Try.func26, Try.ntmps26
  go_wp2_with fail
  go_ret
  exact ⟨rfl, rfl⟩
theorem val_nil (w : World) : Calls Try.prog 27 #[.slice none 0 0, .int .i64 0, .int .i64 0] w fun e w' => e = .returned (.int .i64 (-1)) ∧ w' = w := by
  go_enter Try.func27, Try.ntmps27
  go_wp2_with fail
  go_ret
  exact ⟨rfl, rfl⟩
theorem validM_nil (w : World) : Calls Try.prog 12 #[.slice none 0 0] w fun e w' => e = .returned (.bool false) ∧ w' = w := by
  go_enter Try.func12, Try.ntmps12
  go_wp2_with fail
  refine (zzSkip_nil _).mono ?_
  rintro e w1 ⟨rfl, rfl⟩
  go_wp2_with fail
  refine (val_nil _).mono ?_
  rintro e w2 ⟨rfl, rfl⟩
  go_wp2_with fail
  go_ret
  exact ⟨rfl, rfl⟩
set_option maxRecDepth 20000 in
theorem valid_nil (w : World) : Calls Try.prog 11 #[.slice none 0 0] w fun e w' => e = .returned (.bool false) ∧ Below w.heap.size w w' := by
  have HB : Hid (∀ o, Below w.heap.size w (w.alloc o)) := fun o => (Below.refl _ _).alloc (Nat.le_refl _) o
  go_enter Try.func11, Try.ntmps11
  go_wp2_with fail
  refine (skip_nil _).mono ?_
  rintro e w1 ⟨rfl, hw1⟩
  have HB1 : Hid (Below w.heap.size w w1) := by
    have := HB.out (.cells #[.int .u8 0, .int .u8 0, .int .u8 0, .int .u8 0, .int .u8 0, .int .u8 0, .int .u8 0, .int .u8 0, .int .u8 0, .int .u8 0, .int .u8 0, .int .u8 0, .int .u8 0, .int .u8 0, .int .u8 0, .int .u8 0, .int .u8 0, .int .u8 0, .int .u8 0, .int .u8 0, .int .u8 0, .int .u8 0, .int .u8 0, .int .u8 0, .int .u8 0, .int .u8 0, .int .u8 0, .int .u8 0, .int .u8 0, .int .u8 0, .int .u8 0, .int .u8 0] 28)
    rw [hw1]; exact this
  clear hw1 HB
  go_wp2_with fail
  go_loopw [5] (fun y wr => y = .int .i64 0 ∧ Below w.heap.size w wr) (fun y _ => 0)
  case atStart => exact ⟨rfl, HB1.out⟩
  case round =>
    clear HB1
    obtain ⟨rfl, hb⟩ := hrel
    have HB2 : Hid (Below w.heap.size w wr) := hb
    clear hb
    go_wp2_with fail
    refine (scalar_nil _).mono ?_
    rintro e w2 ⟨rfl, rfl⟩
    go_wp2_with fail
    go_ret
    exact ⟨rfl, HB2.out⟩

/-! ### The law -/
theorem large (a : Option Addr) (n cap : Nat) (w : World) (hn : 1048576 < n) :
    Calls Try.prog 3 #[.slice a n cap] w fun e w' => e = .returned (.bool true) ∧ Below w.heap.size w w' := by
  go_enter Try.func3, Try.ntmps3
  go_wp2_with (go_at_call 9; refine (bytes9_no _ _ _ _ hn).mono ?_; rintro e w' ⟨rfl, rfl⟩)
  go_ret
  exact ⟨rfl, Below.refl _ _⟩

theorem law_nil (w : World) : Calls Try.prog 3 #[.slice none 0 0] w fun e w' => e = .returned (.bool true) ∧ Below w.heap.size w w' := by
  go_enter Try.func3, Try.ntmps3
  go_wp2_with fail
  refine (bytes9_yes none 0 0 _ (by omega)).mono ?_
  rintro e w' ⟨rfl, rfl⟩
  go_wp2_with fail
  refine (clone_nil _).mono ?_
  rintro e w' ⟨rfl, rfl⟩
  go_wp2_with fail
  refine (valid_nil _).mono ?_
  rintro e w1 ⟨rfl, hb1⟩
  have HB1 : Hid _ := hb1
  clear hb1
  go_wp2_with fail
  refine (validM_nil _).mono ?_
  rintro e w' ⟨rfl, rfl⟩
  go_wp2_with fail
  go_ret
  exact ⟨rfl, HB1.out⟩

/-- What follows the clone: the text's copy lies in block B, its bytes are t. -/
theorem law_empty (x : Addr) (cap : Nat) (w : World) : Calls Try.prog 3 #[.slice (some x) 0 cap] w fun e w' => e = .returned (.bool true) ∧ Below w.heap.size w w' := by
  go_enter Try.func3, Try.ntmps3
  go_wp2_with fail
  refine (bytes9_yes (some x) 0 cap _ (by omega)).mono ?_
  rintro e w' ⟨rfl, rfl⟩
  go_wp2_with fail
  refine (clone_empty x cap _).mono ?_
  rintro e w1 ⟨rfl, hb1⟩
  have HB1 : Hid _ := hb1
  clear hb1
  go_wp2_with fail
  refine (valid_any (fun _ => 0) (fun _ => ⟨Int.le_refl _, by show (0 : Int) ≤ 255; omega⟩) _ 0 0 0 _ (by omega) (Nat.le_refl _) (.inl rfl) (fun k hk => by omega)).mono ?_
  rintro e w2 ⟨rfl, hb2⟩
  have HB2 : Hid _ := HB1.out.trans (hb2.mono HB1.out.size)
  clear hb2
  go_wp2_with fail
  refine (validM_any (fun _ => 0) (fun _ => ⟨Int.le_refl _, by show (0 : Int) ≤ 255; omega⟩) _ 0 0 0 _ (by omega) ⟨.inl rfl, fun k hk => by omega⟩).mono ?_
  rintro e w3 ⟨rfl, hb3⟩
  have HB3 : Hid _ := HB2.out.trans (hb3.mono HB2.out.size)
  clear hb3
  rw [Pl.vd_vm]
  go_wp2_with fail
  go_ret
  exact ⟨by simp, HB3.out⟩

theorem law_row (t : Nat → Int) (ht : ∀ k, 0 ≤ t k ∧ t k ≤ 255) (b off n cap : Nat) (w : World) (hn : n ≤ 1048576) (hb : b < w.heap.size)
    (hc : ∀ k, k < n → w.cell? ⟨b, off + k, none⟩ = some (.int .u8 (t k))) (h0 : 0 < n) :
    Calls Try.prog 3 #[.slice (some ⟨b, off, none⟩) n cap] w fun e w' => e = .returned (.bool true) ∧ Below w.heap.size w w' := by
  have HC : Hid (∀ k, k < n → w.cell? ⟨b, off + k, none⟩ = some (.int .u8 (t k))) := hc
  have HT : Hid (∀ k, 0 ≤ t k ∧ t k ≤ 255) := ht
  clear hc ht
  go_enter Try.func3, Try.ntmps3
  go_wp2_with fail
  refine (bytes9_yes _ n cap _ hn).mono ?_
  rintro e w' ⟨rfl, rfl⟩
  go_wp2_with fail
  refine (clone_any t b off n cap _ hn (.inr hb) HC.out).mono ?_
  rintro e w1 ⟨rfl, hc1, hb1⟩
  have HC1 : Hid _ := hc1
  have HB1 : Hid _ := hb1
  have HL : Hid _ := Go.Clock.block_lt (hc1 0 h0)
  clear hc1 hb1
  go_wp2_with fail
  refine (valid_any t HT.out _ 0 n n _ hn (Nat.le_refl _) (.inr (by exact HL.out)) (by exact HC1.out)).mono ?_
  rintro e w2 ⟨rfl, hb2⟩
  have HT2 : Hid (Txt t _ 0 n w2) := Txt.later ⟨.inr (by exact HL.out), HC1.out⟩ hb2
  have HB2 : Hid _ := HB1.out.trans (hb2.mono HB1.out.size)
  clear hb2
  go_wp2_with fail
  refine (validM_any t HT.out _ 0 n n _ hn HT2.out).mono ?_
  rintro e w3 ⟨rfl, hb3⟩
  have HB3 : Hid _ := HB2.out.trans (hb3.mono HB2.out.size)
  clear hb3
  rw [Pl.vd_vm]
  go_wp2_with fail
  go_ret
  exact ⟨by simp, HB3.out⟩

/-- Every input. -/
theorem rec_any (a : Option Addr) (n cap : Nat) (zs : List Int) (w : World)
    (h : (a = none ∧ n = 0 ∧ cap = 0 ∧ zs = []) ∨ ∃ x, a = some x ∧ n ≤ cap ∧ cap ≤ maxLen ∧ zs.length = cap ∧ (∀ i, i < zs.length → w.cell? (x.add i) = some (.int .u8 (zs.getD i 0))) ∧ ∀ n ∈ zs, (Lit.int .u8 n).wf = true) :
    Calls Try.prog 3 #[.slice a n cap] w fun e w' => e = .returned (.bool true) ∧ Below w.heap.size w w' := by
  have h' := h
  obtain ⟨hm, t, ht, hrow⟩ := row_open h
  by_cases hn : n ≤ 1048576
  · rcases h' with ⟨rfl, rfl, rfl, _⟩ | ⟨x, rfl, _⟩
    · exact law_nil w
    · rcases hrow with rfl | ⟨b, off, hx, hb, hc⟩
      · exact law_empty x cap w
      · by_cases h0 : n = 0
        · subst h0; exact law_empty x cap w
        · cases hx
          exact law_row t ht b off n cap w hn hb hc (by omega)
  · exact large a n cap w (by omega)

end Go.Proofs.Qxb6603099a.Rec

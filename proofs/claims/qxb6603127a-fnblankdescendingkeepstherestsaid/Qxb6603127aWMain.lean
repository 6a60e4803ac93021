import Derived.Test.Qxb6603127aSt3
import Derived.Deep.RegionHeld3
namespace Go.Proofs.Qxb6603127a
open Go.ChangeShapes Go.WideShapes Go.ChangeAt Go.RowKit
set_option linter.unusedVariables false

theorem hid {p : Prop} (h : p) : Hid p := h
/-- Is member j to be dropped? -/
def drp (m : Nat) (d : Nat → Bool) (j : Nat) : Bool := decide (j < m) && d j

set_option maxRecDepth 20000 in
set_option maxHeartbeats 2000000 in
theorem main_any (a0 a1 : Option Addr) (n m c0 c1 : Nat) (sp : Bool) (u : Nat → Nat) (d : Nat → Bool) (hu : ∀ j, u j < 65536) (w : World) (hn : n ≤ 8192) (hm : 2 * n + m ≤ 1048576)
    (hc0 : Came w a0 n c0 (fun j => .int .u16 (u j))) (hc1 : Came w a1 m c1 (fun j => .bool (d j))) :
    Calls Try.prog 3 #[.slice a0 n c0, .slice a1 m c1, .bool sp] w fun e w' => e = .returned (.bool true) ∧ Below w.heap.size w w' := by
  obtain ⟨i0, hi, hz0, hz1, hz2⟩ := info_parts Try.info5
  have HC0 : Hid (Came w a0 n c0 (fun j => .int .u16 (u j))) := hc0
  have HC1 : Hid (∀ w', Below w.heap.size w w' → Came w' a1 m c1 (fun j => .bool (d j))) := fun w' hb => by
    rcases hc1 with h | ⟨x, rfl, h⟩
    · exact .inl h
    · exact .inr ⟨x, rfl, fun j hj => (hb.cell (Go.Clock.block_lt (h j hj))).trans (h j hj)⟩
  have HU : Hid (∀ j, u j < 65536) := hu
  clear hc0 hc1 hu
  go_enter Try.func3, Try.ntmps3
  go_wp2_with fail
  refine (bytes_yes a0 a1 n m c0 c1 sp _ (by omega)).mono ?_
  rintro e w1 ⟨rfl, rfl⟩
  go_wp2_with fail
  refine (cloneU_any a0 n c0 _ (fun _ => rfl) _ (by omega) HC0.out).mono ?_
  rintro e w2 ⟨a2, c2, rfl, hcp2, hb2⟩
  have HP2 : Hid _ := hcp2
  have HB2 : Hid _ := hb2
  clear hcp2 hb2
  go_wp2_with fail
  refine (cloneB_any a1 m c1 _ (fun _ => rfl) w2 (by omega) (HC1.out w2 HB2.out)).mono ?_
  rintro e w0 ⟨a3, c3, rfl, hcp3, hb3⟩
  have HP3 : Hid (Copied w0 a3 m (fun j => .bool (d j))) := hcp3
  have HP2' : Hid (Copied w0 a2 n (fun j => .int .u16 (u j))) := Copied.later HP2.out hb3
  have HB3 : Hid (Below w1.heap.size w1 w0) := Below.trans HB2.out (hb3.mono (Below.size HB2.out))
  clear hcp3 hb3 HP2 HB2 HC0 HC1
  have hmk := run_make_row' (P := Try.prog) 27 3 (.int .i64 0) 8 Try.underlying27 Try.info3 rfl .i64 .i64 n (by omega) (by omega)
  go_upto_region 13 with fail
  go_wp2_with (at_make; refine wpList_make_own _ rfl _ _ 28 rfl (w0.heap.size + 5) 5 i0 (.int .u8 0) 1 Try.underlying28 hi hz0 hz1 .i64 .i64 _ (2 + n * 20) rfl rfl (by omega) (by rw [hz2]; omega) (by unfold maxLen; omega) (by simp) ?_)
  intro w6 hown hgr
  have HS0 : Hid (St w0 n w6 (w0.heap.size + 5) (2 + n * 20) [] (fun _ => 0) (fun _ => 0) (fun _ => 0) (fun _ => 0) (fun _ => 0)) := st_new w0 n (2 + n * 20) w6 _ rfl (by simpa using hown) hgr
  clear hown hgr hmk
  go_upto_region 14 with fail
  go_cut [8, 9, 10, 11, 12, 13] from 22 (fun x8 x9 x10 x11 x12 x13 w' => ∃ g cap, x8 = .slice (some ⟨w0.heap.size, 0, none⟩) n n ∧ x9 = .slice (some ⟨w0.heap.size + 1, 0, none⟩) n n ∧ x10 = .slice (some ⟨w0.heap.size + 2, 0, none⟩) n n ∧ x11 = .slice (some ⟨w0.heap.size + 3, 0, none⟩) n n ∧ x12 = .slice (some ⟨w0.heap.size + 4, 0, none⟩) n n ∧ x13 = .slice (some ⟨g, 0, none⟩) 1 cap ∧ St w0 n w' g cap [123] (fun _ => 0) (fun _ => 0) (fun _ => 0) (fun _ => 0) (fun _ => 0))
  case first =>
    have hsz := HS0.out.size
    go_wp2_with (at_builtin; refine wpList_app _ rfl _ _ 28 rfl i0 (.int .u8 0) Try.underlying28 hi hz0 hz1 hz2 rfl (w0.heap.size + 5) (w0.heap.size + 5) (2 + n * 20) [] [123] rfl (by exact HS0.out.t.alloc _) (by simp; omega) ⟨w6.heap.size, 0, none⟩ 1 rfl (by exact news1 _ _) (by simp) (by simp) ?_)
    intro g1 cap1 w7 hst7 hgr7 hat7
    have HS7 : Hid _ := HS0.out.grew ((Grew.alloc (w0.heap.size + 5) w6 _).trans hgr7 (.inl rfl)) hst7
    clear hst7 hgr7 hat7
    go_wp2_with fail
    go_meet
    case rel => exact ⟨g1, cap1, rfl, rfl, rfl, rfl, rfl, rfl, HS7.out⟩
  case rest =>
    as_aux_lemma =>
      obtain ⟨g0, cap0, rfl, rfl, rfl, rfl, rfl, rfl, hs0⟩ := hcut
      have HS : Hid _ := hs0
      clear hs0 HS0
      go_upto_block 0 with fail
      go_cut [13] from 22 (fun x13 w' => ∃ (g cap : Nat) (fK fS fE fB fA : Nat → Int), x13 = .slice (some ⟨g, 0, none⟩) (Pl.A (Pl.mem u) (spL sp) n).length cap ∧ St w0 n w' g cap (Pl.A (Pl.mem u) (spL sp) n) fK fS fE fB fA ∧ Spec (Pl.mem u) (spL sp) n fK fE fB fA)
      case first =>
        as_aux_lemma =>
          go_wp2_with fail
          go_loopg [13, 14] n (fun x x13 x14 wr => ∃ (i g cap : Nat) (fK fS fE fB fA : Nat → Int), x13 = .slice (some ⟨g, 0, none⟩) (Pl.A (Pl.mem u) (spL sp) i).length cap ∧ x14 = .int .i64 i ∧ i ≤ n ∧ n ≤ i + x ∧ St w0 n wr g cap (Pl.A (Pl.mem u) (spL sp) i) fK fS fE fB fA ∧ Spec (Pl.mem u) (spL sp) i fK fE fB fA)
          case atStart => exact ⟨0, g0, cap0, _, _, _, _, _, rfl, rfl, Nat.zero_le _, by omega, HS.out, spec_zero _ _ _ _ _ _⟩
          case round =>
            as_aux_lemma =>
              clear HS
              obtain ⟨i, g, cap, fK, fS, fE, fB, fA, rfl, rfl, hin, hix, hst, hsp⟩ := hrel
              have HSP := hid hsp
              have HST : Hid (St w0 n wr g cap (Pl.A (Pl.mem u) (spL sp) i) fK fS fE fB fA) := hst
              have hAl := A_len u (spL sp) (spL_len sp) i (by omega)
              clear hst hsp
              by_cases hlt : i < n
              · have hcB := HST.out.b.cells i hlt
                have hfB := HST.out.b.free i hlt
                go_upto_region 19 with fail
                have HS1 : Hid _ := HST.out.putB i hlt (-1)
                generalize wr.setCell ⟨w0.heap.size + 3, i, none⟩ (.int .i64 (-1)) = w1 at HS1 ⊢
                clear hcB hfB HST
                have hcA := HS1.out.a.cells i hlt
                have hfA := HS1.out.a.free i hlt
                go_upto_region 20 with fail
                have HS2 : Hid _ := HS1.out.putA i hlt (-1)
                generalize w1.setCell ⟨w0.heap.size + 4, i, none⟩ (.int .i64 (-1)) = w2 at HS2 ⊢
                clear hcA hfA HS1
                go_upto_if 74 with fail
                go_cut [13] from 62 to 117 (fun x13 w' => ∃ (g cap : Nat) (fB fA : Nat → Int), x13 = .slice (some ⟨g, 0, none⟩) ((Pl.A (Pl.mem u) (spL sp) i).length + (Pl.sf (spL sp) i).length) cap ∧ St w0 n w' g cap (Pl.A (Pl.mem u) (spL sp) i ++ Pl.sf (spL sp) i) fK fS fE fB fA ∧
                    Spec (Pl.mem u) (spL sp) (i + 1) (upd fK i (((Pl.A (Pl.mem u) (spL sp) i).length + (Pl.sf (spL sp) i).length : Nat) : Int)) (upd fE i ((Pl.A (Pl.mem u) (spL sp) (i + 1)).length : Int)) fB fA)
                case first =>
                  as_aux_lemma =>
                    by_cases hi0 : i = 0
                    · subst hi0
                      have HF := hid (spec_first (m := Pl.mem u) (sp := spL sp) fK fE fB fA)
                      go_wp2
                      go_meet
                      case rel => exact ⟨g, cap, _, _, rfl, by simpa [Pl.sf] using HS2.out, HF.out⟩
                    · have HF := hid (spec_step HSP.out (show 0 < i by omega))
                      have hpos : 0 < i := by omega
                      have HSF : Hid (Pl.sf (spL sp) i = 44 :: spL sp) := by
                        have : Pl.sf (spL sp) i = 44 :: spL sp := by unfold Pl.sf; rw [if_neg hi0]
                        exact this
                      obtain ⟨A0, hA0⟩ : ∃ A0, A0 = Pl.A (Pl.mem u) (spL sp) i := ⟨_, rfl⟩
                      have HA0 := hid hA0
                      rw [← hA0] at HS2 hAl ⊢
                      clear hA0
                      have hcB := HS2.out.b.cells i hlt
                      have hfB := HS2.out.b.free i hlt
                      go_upto_region 22 with fail
                      have HS3 : Hid _ := HS2.out.putB i hlt (A0.length : Int)
                      generalize w2.setCell ⟨w0.heap.size + 3, i, none⟩ (.int .i64 (A0.length : Int)) = w3 at HS3 ⊢
                      clear hcB hfB HS2
                      have hcA := HS3.out.a.cells (i - 1) (by omega)
                      have hfA := HS3.out.a.free (i - 1) (by omega)
                      go_upto_region 23 with fail
                      have HS4 : Hid _ := HS3.out.putA (i - 1) (by omega) (A0.length : Int)
                      generalize w3.setCell ⟨w0.heap.size + 4, i - 1, none⟩ (.int .i64 (A0.length : Int)) = w4 at HS4 ⊢
                      clear hcA hfA HS3
                      have hsz4 := HS4.out.size
                      go_wp2_with (at_builtin; refine wpList_app _ rfl _ _ 28 rfl i0 (.int .u8 0) Try.underlying28 hi hz0 hz1 hz2 rfl (w0.heap.size + 5) g cap A0 [44] rfl (by exact HS4.out.t.alloc _) (by simp; omega) ⟨w4.heap.size, 0, none⟩ 1 rfl (by exact news1 _ _) (by simp) (by simp; omega) ?_)
                      intro g5 cap5 w5 hst5 hgr5 hat5
                      have HS5 : Hid _ := HS4.out.grew ((Grew.alloc g w4 _).trans hgr5 (.inl rfl)) hst5
                      clear hst5 hgr5 hat5 hsz4
                      have hsz5 := HS5.out.size
                      cases sp with
                      | false =>
                        go_wp2_with fail
                        go_meet
                        case rel => exact ⟨g5, cap5, _, _, by rw [← HA0.out, HSF.out]; rfl, by rw [HSF.out]; have h := HS5.out; rw [HA0.out] at h; exact h, HF.out⟩
                      | true =>
                        go_wp2_with (at_builtin; refine wpList_app _ rfl _ _ 28 rfl i0 (.int .u8 0) Try.underlying28 hi hz0 hz1 hz2 rfl (w0.heap.size + 5) g5 cap5 (A0 ++ [44]) [32] (by rw [List.length_append]; rfl) (by exact HS5.out.t.alloc _) (by simp; omega) ⟨w5.heap.size, 0, none⟩ 1 rfl (by exact news1 _ _) (by simp) (by simp; omega) ?_)
                        intro g6 cap6 w6' hst6 hgr6 hat6
                        have HS6 : Hid _ := HS5.out.grew ((Grew.alloc g5 w5 _).trans hgr6 (.inl rfl)) hst6
                        clear hst6 hgr6 hat6 hsz5
                        go_wp2_with fail
                        go_meet
                        case rel => exact ⟨g6, cap6, _, _, by rw [← HA0.out, HSF.out]; simp [spL], by rw [HSF.out]; have h := HS6.out; rw [HA0.out] at h; simpa [spL] using h, HF.out⟩
                case rest =>
                  as_aux_lemma =>
                    obtain ⟨g7, cap7, fB7, fA7, rfl, hst7, hsp7⟩ := hcut
                    have HSP7 := hid hsp7
                    obtain ⟨T0, hT0⟩ : ∃ T0, T0 = Pl.A (Pl.mem u) (spL sp) i ++ Pl.sf (spL sp) i := ⟨_, rfl⟩
                    have hl0 : (Pl.A (Pl.mem u) (spL sp) i).length + (Pl.sf (spL sp) i).length = T0.length := by rw [hT0, List.length_append]
                    have HT0 := hid hT0
                    have hs7 : St w0 n wc g7 cap7 T0 fK fS fE fB7 fA7 := by rw [hT0]; exact hst7
                    have HS7 := hid hs7
                    have hT0l : T0.length ≤ 400002 := by
                      have h2 : (Pl.sf (spL sp) i).length ≤ 2 := by
                        have := spL_len sp
                        unfold Pl.sf; split <;> simp <;> omega
                      omega
                    have HSP8 : Hid (Spec (Pl.mem u) (spL sp) (i + 1) (upd fK i ((T0.length : Nat) : Int)) (upd fE i ((Pl.A (Pl.mem u) (spL sp) (i + 1)).length : Int)) fB7 fA7) := by
                      have := HSP7.out
                      rw [hl0] at this
                      exact this
                    rw [hl0]
                    clear hl0 hT0 hst7 hsp7 hs7 HSP7 HSP HS2
                    obtain ⟨gv, ha2, hgv, hcv⟩ : ∃ gv, a2 = some ⟨gv, 0, none⟩ ∧ gv < w0.heap.size ∧ ∀ j, j < n → w0.cell? ⟨gv, j, none⟩ = some (.int .u16 (u j)) := by
                      rcases HP2'.out with h | h
                      · omega
                      · exact h
                    subst ha2
                    have HCV := hid hcv
                    have hui := HU.out i
                    have hkl := Pl.key_len i
                    have hdl := Pl.dec_len i
                    clear hcv
                    have hcK := HS7.out.k.cells i hlt
                    have hfK := HS7.out.k.free i hlt
                    go_upto_region 27 with fail
                    have HS8 := hid (HS7.out.putK i hlt (T0.length : Int))
                    generalize wc.setCell ⟨w0.heap.size, i, none⟩ (.int .i64 (T0.length : Int)) = w8 at HS8 ⊢
                    clear hcK hfK HS7
                    go_wp2_with fail
                    refine (appK_any (w0.heap.size + 5) g7 cap7 T0 i w8 HS8.out.size HS8.out.t (by omega) (by omega)).mono ?_
                    rintro e w9 ⟨g9, cap9, rfl, hst9, hgr9, hat9⟩
                    obtain ⟨T1, hT1⟩ : ∃ T1, T1 = T0 ++ Pl.key i := ⟨_, rfl⟩
                    have hl1 : T0.length + (Pl.key i).length = T1.length := by rw [hT1, List.length_append]
                    have HT1 := hid hT1
                    have HS9 := hid (HS8.out.grew hgr9 (by rw [← hT1] at hst9; exact hst9))
                    have hT1l : T1.length ≤ 400026 := by omega
                    rw [hl1]
                    clear hl1 hT1 hst9 hgr9 hat9 HS8 hkl
                    have hcS := HS9.out.s.cells i hlt
                    have hfS := HS9.out.s.free i hlt
                    go_upto_region 29 with fail
                    have HS10 := hid (HS9.out.putS i hlt (T1.length : Int))
                    generalize w9.setCell ⟨w0.heap.size + 1, i, none⟩ (.int .i64 (T1.length : Int)) = w10 at HS10 ⊢
                    clear hcS hfS HS9
                    have hcvi : w10.cell? ⟨gv, i, none⟩ = some (.int .u16 (u i)) := (HS10.out.old.cell (by exact hgv)).trans (HCV.out i hlt)
                    have hu0 : (0 : Int) ≤ (u i : Int) := by omega
                    have hu1 : (u i : Int) ≤ 65535 := by omega
                    go_wp2_with fail
                    refine (appU_any (w0.heap.size + 5) g9 cap9 T1 (u i) w10 HS10.out.size HS10.out.t (by omega) hui).mono ?_
                    rintro e w11 ⟨g11, cap11, rfl, hst11, hgr11, hat11⟩
                    have hT2 : T1 ++ Pl.dec (u i) = Pl.A (Pl.mem u) (spL sp) (i + 1) := by
                      rw [HT1.out, HT0.out, A_succ]; simp [Pl.mem]
                    have hl2 : T1.length + (Pl.dec (u i)).length = (Pl.A (Pl.mem u) (spL sp) (i + 1)).length := by rw [← hT2, List.length_append]
                    have HS11 := hid (HS10.out.grew hgr11 (by rw [hT2] at hst11; exact hst11))
                    have hAl2 := A_len u (spL sp) (spL_len sp) (i + 1) (by omega)
                    rw [hl2]
                    clear hl2 hT2 hst11 hgr11 hat11 HS10 hcvi
                    have hcE := HS11.out.e.cells i hlt
                    have hfE := HS11.out.e.free i hlt
                    go_upto_region 17 with fail
                    have HS12 := hid (HS11.out.putE i hlt ((Pl.A (Pl.mem u) (spL sp) (i + 1)).length : Int))
                    generalize w11.setCell ⟨w0.heap.size + 2, i, none⟩ (.int .i64 ((Pl.A (Pl.mem u) (spL sp) (i + 1)).length : Int)) = w12 at HS12 ⊢
                    clear hcE hfE HS11
                    go_wp2_with fail
                    go_roundg (gk - 1)
                    case measure => omega
                    case rel => exact ⟨i + 1, g11, cap11, _, _, _, _, _, rfl, by go_num, by omega, by omega, HS12.out, HSP8.out⟩
              · have e : i = n := by omega
                subst e
                go_wp2_with fail
                go_meet
                case rel => exact ⟨g, cap, fK, fS, fE, fB, fA, rfl, HST.out, HSP.out⟩
      case rest =>
        as_aux_lemma =>
          clear HS
          obtain ⟨g, cap, fK, fS, fE, fB, fA, rfl, hst, hspec⟩ := hcut
          have HST := hid hst
          have HSP := hid hspec
          have hAn := A_len u (spL sp) (spL_len sp) n hn
          have hszc := hst.size
          clear hst hspec
          obtain ⟨An, hAe⟩ : ∃ An, An = Pl.A (Pl.mem u) (spL sp) n := ⟨_, rfl⟩
          have HAE := hid hAe
          rw [← hAe] at HST hAn ⊢
          clear hAe
          go_wp2_with (at_builtin; refine wpList_app _ rfl _ _ 28 rfl i0 (.int .u8 0) Try.underlying28 hi hz0 hz1 hz2 rfl (w0.heap.size + 5) g cap An [125] rfl (by exact HST.out.t.alloc _) (by simp; omega) ⟨wc.heap.size, 0, none⟩ 1 rfl (by exact news1 _ _) (by simp) (by simp; omega) ?_)
          intro g1 cap1 w1 hst1 hgr1 hat1
          have HS1 := hid (HST.out.grew ((Grew.alloc g wc _).trans hgr1 (.inl rfl)) hst1)
          clear hst1 hgr1 hat1 HST hszc
          go_upto_block 2 with fail
          have HLEN : Hid (∀ k, k ≤ n → (Pl.A (Pl.mem u) (spL sp) k ++ Pl.R (Pl.mem u) (spL sp) (drp m d) n (n - k)).length = An.length + 1) := fun k hk => by
            have := Pl.R_len (Pl.mem u) (spL sp) (drp m d) n (n - k) (by omega)
            rw [show n - (n - k) = k by omega, ← HAE.out] at this
            rw [List.length_append]; exact this
          have HS2 : Hid (St w0 n w1 g1 cap1 (Pl.A (Pl.mem u) (spL sp) n ++ Pl.R (Pl.mem u) (spL sp) (drp m d) n (n - n)) fK fS fE fB fA) := by
            have := HS1.out
            rw [HAE.out] at this
            rw [Nat.sub_self]
            exact this
          clear HS1
          go_cut [15] from 22 (fun x15 w' => Stk (w0.heap.size + 5) w' g1 cap1 (Pl.A (Pl.mem u) (spL sp) 0 ++ Pl.R (Pl.mem u) (spL sp) (drp m d) n n) ∧ Below w0.heap.size w0 w' ∧ w0.heap.size + 5 ≤ w'.heap.size)
          case first =>
            as_aux_lemma =>
              go_wp2_with fail
              go_loopg [15] n (fun x x15 wr => ∃ k : Nat, x15 = .int .i64 ((k : Int) - 1) ∧ k ≤ n ∧ k ≤ x ∧ St w0 n wr g1 cap1 (Pl.A (Pl.mem u) (spL sp) k ++ Pl.R (Pl.mem u) (spL sp) (drp m d) n (n - k)) fK fS fE fB fA)
              case atStart => exact ⟨n, rfl, Nat.le_refl _, Nat.le_refl _, HS2.out⟩
              case round =>
                as_aux_lemma =>
                  clear HS2
                  obtain ⟨k, rfl, hkn, hkx, hst⟩ := hrel
                  have HST := hid hst
                  clear hst
                  cases k with
                  | zero =>
                    go_wp2_with fail
                    go_meet
                    case rel => exact ⟨HST.out.t, HST.out.old, HST.out.size⟩
                  | succ i =>
                    rw [show (((i + 1 : Nat) : Int) - 1) = (i : Int) by omega]
                    by_cases hdr : drp m d i = true
                    · have him : i < m := by
                        unfold drp at hdr; simp at hdr; exact hdr.1
                      have hdi : d i = true := by
                        unfold drp at hdr; simp at hdr; exact hdr.2
                      have HDR := hid hdr
                      clear hdr
                      obtain ⟨gd, ha3, hgd, hcd⟩ : ∃ gd, a3 = some ⟨gd, 0, none⟩ ∧ gd < w0.heap.size ∧ ∀ j, j < m → w0.cell? ⟨gd, j, none⟩ = some (.bool (d j)) := by
                        rcases HP3.out with h | h
                        · omega
                        · exact h
                      subst ha3
                      have hcdi : wr.cell? ⟨gd, i, none⟩ = some (.bool true) := by
                        rw [HST.out.old.cell (p := ⟨gd, i, none⟩) (by exact hgd), hcd i him, hdi]
                      have hlt : i < n := by omega
                      have q1 := HST.out.k.cells i hlt
                      have q2 := HST.out.s.cells i hlt
                      have q3 := HST.out.e.cells i hlt
                      have q4 := HST.out.b.cells i hlt
                      have q5 := HST.out.a.cells i hlt
                      clear hcd hdi
                      have HBM : Hid (∀ wx, St w0 n wx g1 cap1 (Pl.A (Pl.mem u) (spL sp) (i + 1) ++ Pl.R (Pl.mem u) (spL sp) (drp m d) n (n - (i + 1))) fK fS fE fB fA → Calls Try.prog 9 #[.slice (some ⟨g1, 0, none⟩) (An.length + 1) cap1, .int .i64 (fS i), .int .i64 (fE i), .int .i64 (fK i), .int .i64 (fB i), .int .i64 (fA i)] wx fun e w' =>
                          e = .returned (.tuple #[]) ∧ St w0 n w' g1 cap1 (Pl.A (Pl.mem u) (spL sp) i ++ Pl.R (Pl.mem u) (spL sp) (drp m d) n (n - i)) fK fS fE fB fA) := fun wx hx => by
                        have h := blank_member hx HSP.out hlt HDR.out (by rw [HLEN.out (i + 1) hkn]; omega)
                        rw [HLEN.out (i + 1) hkn] at h
                        exact h
                      have b0 : (0 : Int) ≤ (i : Int) := by omega
                      have b1 : (i : Int) < n := by omega
                      go_wp2_with fail
                      go_region_held3 (fun w' => w'.cell? ⟨w0.heap.size, i, none⟩ = some (.int .i64 (fK i)) ∧ w'.cell? ⟨w0.heap.size + 1, i, none⟩ = some (.int .i64 (fS i)) ∧ w'.cell? ⟨w0.heap.size + 2, i, none⟩ = some (.int .i64 (fE i)) ∧ w'.cell? ⟨w0.heap.size + 3, i, none⟩ = some (.int .i64 (fB i)) ∧ w'.cell? ⟨w0.heap.size + 4, i, none⟩ = some (.int .i64 (fA i))) (go_keep) ((go_at_call 9; refine (Calls.mono (HBM.out _ (by exact HST.out.drewN 1))) ?_; rintro e w2 ⟨rfl, hst2⟩; have r1 := hst2.k.cells i hlt; have r2 := hst2.s.cells i hlt; have r3 := hst2.e.cells i hlt; have r4 := hst2.b.cells i hlt; have r5 := hst2.a.cells i hlt; have HST2 := hid hst2; clear hst2))
                      go_wp2_with fail
                      go_roundg i
                      case measure => omega
                      case rel => exact ⟨i, rfl, by omega, Nat.le_refl _, HST2.out⟩
                    · have HDR : Hid (drp m d i = false) := by
                        have : drp m d i = false := by simpa using hdr
                        exact this
                      clear hdr
                      have HST2 : Hid (St w0 n wr g1 cap1 (Pl.A (Pl.mem u) (spL sp) i ++ Pl.R (Pl.mem u) (spL sp) (drp m d) n (n - i)) fK fS fE fB fA) := by
                        have := HST.out
                        rw [keep_member (by omega) HDR.out] at this
                        exact this
                      by_cases him : i < m
                      · have hdi : d i = false := by
                          have := HDR.out
                          unfold drp at this; simpa [him] using this
                        obtain ⟨gd, ha3, hgd, hcd⟩ : ∃ gd, a3 = some ⟨gd, 0, none⟩ ∧ gd < w0.heap.size ∧ ∀ j, j < m → w0.cell? ⟨gd, j, none⟩ = some (.bool (d j)) := by
                          rcases HP3.out with h | h
                          · omega
                          · exact h
                        subst ha3
                        have hcdi : wr.cell? ⟨gd, i, none⟩ = some (.bool false) := by
                          rw [HST.out.old.cell (p := ⟨gd, i, none⟩) (by exact hgd), hcd i him, hdi]
                        clear hcd hdi HST
                        go_wp2_with fail
                        go_roundg i
                        case measure => omega
                        case rel => exact ⟨i, rfl, by omega, Nat.le_refl _, HST2.out⟩
                      · clear HST
                        go_wp2_with fail
                        go_roundg i
                        case measure => omega
                        case rel => exact ⟨i, rfl, by omega, Nat.le_refl _, HST2.out⟩
          case rest =>
            as_aux_lemma =>
              clear HS2
              obtain ⟨hstk, hold, hszc⟩ := hcut
              have HLEN0 : Hid ((Pl.A (Pl.mem u) (spL sp) 0 ++ Pl.R (Pl.mem u) (spL sp) (drp m d) n n).length = An.length + 1) := HLEN.out 0 (Nat.zero_le _)
              have HLAW := hid (Pl.law (Pl.mem u) (spL sp) (drp m d) n (Pl.mem_no u) (spL_F sp))
              clear HLEN HSP
              obtain ⟨TX, hTX⟩ : ∃ TX, TX = Pl.A (Pl.mem u) (spL sp) 0 ++ Pl.R (Pl.mem u) (spL sp) (drp m d) n n := ⟨_, rfl⟩
              rw [← hTX] at hstk HLEN0 HLAW
              clear hTX
              have HSK := hid hstk
              have HOLD := hid hold
              clear hstk hold
              go_wp2_with (at_make; refine wpList_make_own _ rfl _ _ 28 rfl (w0.heap.size + 5) 5 i0 (.int .u8 0) 1 Try.underlying28 hi hz0 hz1 .i64 .i64 _ (2 + n * 20) rfl rfl (by omega) (by rw [hz2]; omega) (by unfold maxLen; omega) hszc ?_)
              intro w2 hown2 hgr2
              have HT2 := hid (V_new w0 wc g1 cap1 (2 + n * 20) TX w2 HOLD.out HSK.out hszc hown2 hgr2)
              clear hown2 hgr2 HOLD HSK
              go_upto_region 38 with fail
              have hsz2 := HT2.out.size
              go_wp2_with (at_builtin; refine wpList_app _ rfl _ _ 28 rfl i0 (.int .u8 0) Try.underlying28 hi hz0 hz1 hz2 rfl (w0.heap.size + 5) wc.heap.size (2 + n * 20) [] [123] rfl (by exact HT2.out.v.alloc _) (by simp; omega) ⟨w2.heap.size, 0, none⟩ 1 rfl (by exact news1 _ _) (by simp) (by simp) ?_)
              intro g3 cap3 w3 hst3 hgr3 hat3
              have HT3 := hid (HT2.out.push ((Grew.alloc wc.heap.size w2 _).trans hgr3 (.inl rfl)) hst3 (by omega))
              clear hst3 hgr3 hat3 HT2 hsz2 hszc
              go_upto_block 4 with fail
              go_cut [16, 17, 18] from 22 (fun x16 x17 x18 w' => ∃ (g cap : Nat), x16 = .slice (some ⟨g, 0, none⟩) (Pl.V (Pl.mem u) (drp m d) n).length cap ∧ St3 w0 w' g1 cap1 TX g cap (Pl.V (Pl.mem u) (drp m d) n))
              case first =>
                as_aux_lemma =>
                  go_wp2_with fail
                  go_loopg [16, 17, 18] n (fun x x16 x17 x18 wr => ∃ (i g cap : Nat), x16 = .slice (some ⟨g, 0, none⟩) (Pl.V (Pl.mem u) (drp m d) i).length cap ∧ x17 = .bool (!Pl.al (drp m d) i) ∧ x18 = .int .i64 i ∧ i ≤ n ∧ n ≤ i + x ∧ St3 w0 wr g1 cap1 TX g cap (Pl.V (Pl.mem u) (drp m d) i))
                  case atStart => exact ⟨0, g3, cap3, rfl, rfl, rfl, Nat.zero_le _, by omega, HT3.out⟩
                  case round =>
                    as_aux_lemma =>
                      clear HT3
                      obtain ⟨i, g, cap, rfl, rfl, rfl, hin, hix, hst⟩ := hrel
                      have HST := hid hst
                      have hVl := V_len u (drp m d) i (by omega)
                      clear hst
                      by_cases hlt : i < n
                      · by_cases hdr : drp m d i = true
                        · have him : i < m := by
                            unfold drp at hdr; simp at hdr; exact hdr.1
                          have hdi : d i = true := by
                            unfold drp at hdr; simp at hdr; exact hdr.2
                          have HV1 := hid (V_drop (Pl.mem u) (drp m d) i hdr)
                          clear hdr
                          obtain ⟨gd, ha3, hgd, hcd⟩ : ∃ gd, a3 = some ⟨gd, 0, none⟩ ∧ gd < w0.heap.size ∧ ∀ j, j < m → w0.cell? ⟨gd, j, none⟩ = some (.bool (d j)) := by
                            rcases HP3.out with h | h
                            · omega
                            · exact h
                          subst ha3
                          have hcdi : wr.cell? ⟨gd, i, none⟩ = some (.bool true) := by
                            rw [HST.out.old.cell (p := ⟨gd, i, none⟩) (by exact hgd), hcd i him, hdi]
                          clear hcd hdi
                          go_wp2_with fail
                          go_roundg (gk - 1)
                          case measure => omega
                          case rel => exact ⟨i + 1, g, cap, by rw [HV1.out.1], by rw [HV1.out.2], by go_num, by omega, by omega, by rw [HV1.out.1]; exact HST.out⟩
                        · have HDR : Hid (drp m d i = false) := by
                            have : drp m d i = false := by simpa using hdr
                            exact this
                          clear hdr
                          go_upto_region 43 with fail
                          go_cut [180] from 166 to 195 (fun x180 w' => x180 = .bool false ∧ w' = wr)
                          case first =>
                            by_cases him : i < m
                            · have hdi : d i = false := by
                                have := HDR.out
                                unfold drp at this; simpa [him] using this
                              obtain ⟨gd, ha3, hgd, hcd⟩ : ∃ gd, a3 = some ⟨gd, 0, none⟩ ∧ gd < w0.heap.size ∧ ∀ j, j < m → w0.cell? ⟨gd, j, none⟩ = some (.bool (d j)) := by
                                rcases HP3.out with h | h
                                · omega
                                · exact h
                              subst ha3
                              have hcdi : wr.cell? ⟨gd, i, none⟩ = some (.bool false) := by
                                rw [HST.out.old.cell (p := ⟨gd, i, none⟩) (by exact hgd), hcd i him, hdi]
                              clear hcd hdi
                              go_wp2_with fail
                              go_meet
                              case rel => exact ⟨rfl, rfl⟩
                            · go_wp2_with fail
                              go_meet
                              case rel => exact ⟨rfl, rfl⟩
                          case rest =>
                            as_aux_lemma =>
                              obtain ⟨rfl, rfl⟩ := hcut
                              have HVS : Hid (Pl.V (Pl.mem u) (drp m d) (i + 1) = (Pl.V (Pl.mem u) (drp m d) i ++ (if Pl.al (drp m d) i = true then [44] else [])) ++ Pl.mem u i) := by
                                have : Pl.V (Pl.mem u) (drp m d) (i + 1) = (Pl.V (Pl.mem u) (drp m d) i ++ (if Pl.al (drp m d) i = true then [44] else [])) ++ Pl.mem u i := by
                                  simp only [Pl.V]; rw [if_neg (by rw [HDR.out]; simp)]
                                exact this
                              have HALK := hid (al_keep (drp m d) i HDR.out)
                              clear HDR
                              go_upto_region 44 with fail
                              go_upto_if 182 with fail
                              go_cut [16, 17] from 166 to 195 (fun x16 x17 w' => ∃ (g cap : Nat), x16 = .slice (some ⟨g, 0, none⟩) (Pl.V (Pl.mem u) (drp m d) i ++ (if Pl.al (drp m d) i = true then [44] else [])).length cap ∧ St3 w0 w' g1 cap1 TX g cap (Pl.V (Pl.mem u) (drp m d) i ++ (if Pl.al (drp m d) i = true then [44] else [])))
                              case first =>
                                cases hal : Pl.al (drp m d) i with
                                | true =>
                                  have hszw := HST.out.size
                                  go_wp2_with (at_builtin; refine wpList_app _ rfl _ _ 28 rfl i0 (.int .u8 0) Try.underlying28 hi hz0 hz1 hz2 rfl (w0.heap.size + 5) g cap (Pl.V (Pl.mem u) (drp m d) i) [44] rfl (by exact HST.out.v.alloc _) (by simp; omega) ⟨wc.heap.size, 0, none⟩ 1 rfl (by exact news1 _ _) (by simp) (by simp; omega) ?_)
                                  intro g5 cap5 w5 hst5 hgr5 hat5
                                  have HT5 := hid (HST.out.push ((Grew.alloc g wc _).trans hgr5 (.inl rfl)) hst5 (by omega))
                                  clear hst5 hgr5 hat5 hszw
                                  go_wp2_with fail
                                  go_meet
                                  case rel => exact ⟨g5, cap5, by simp [hal], by simpa [hal] using HT5.out⟩
                                | false =>
                                  go_wp2_with fail
                                  go_meet
                                  case rel => exact ⟨g, cap, by simp [hal], by simpa [hal] using HST.out⟩
                              case rest =>
                                as_aux_lemma =>
                                  clear HST
                                  obtain ⟨g5, cap5, rfl, hst5⟩ := hcut
                                  have HT5 := hid hst5
                                  clear hst5
                                  obtain ⟨T0, hT0⟩ : ∃ T0, T0 = Pl.V (Pl.mem u) (drp m d) i ++ (if Pl.al (drp m d) i = true then [44] else []) := ⟨_, rfl⟩
                                  have hT0l : T0.length ≤ 400001 := by
                                    rw [hT0, List.length_append]
                                    have : (if Pl.al (drp m d) i = true then [44] else [] : List Int).length ≤ 1 := by split <;> simp
                                    omega
                                  rw [← hT0] at HT5 HVS ⊢
                                  clear hT0
                                  obtain ⟨gv, ha2, hgv, hcv⟩ : ∃ gv, a2 = some ⟨gv, 0, none⟩ ∧ gv < w0.heap.size ∧ ∀ j, j < n → w0.cell? ⟨gv, j, none⟩ = some (.int .u16 (u j)) := by
                                    rcases HP2'.out with h | h
                                    · omega
                                    · exact h
                                  subst ha2
                                  have HCV := hid hcv
                                  have hui := HU.out i
                                  have hkl := Pl.key_len i
                                  have hdl := Pl.dec_len i
                                  clear hcv
                                  go_wp2_with fail
                                  refine (appK_any (w0.heap.size + 5) g5 cap5 T0 i _ HT5.out.size HT5.out.v (by omega) (by omega)).mono ?_
                                  rintro e w9 ⟨g9, cap9, rfl, hst9, hgr9, hat9⟩
                                  obtain ⟨T1, hT1⟩ : ∃ T1, T1 = T0 ++ Pl.key i := ⟨_, rfl⟩
                                  have hl1 : T0.length + (Pl.key i).length = T1.length := by rw [hT1, List.length_append]
                                  have HT1 := hid hT1
                                  have HT9 := hid (HT5.out.push hgr9 (by rw [← hT1] at hst9; exact hst9) (by omega))
                                  have hT1l : T1.length ≤ 400025 := by omega
                                  rw [hl1]
                                  clear hl1 hT1 hst9 hgr9 hat9 HT5 hkl
                                  have hcvi : w9.cell? ⟨gv, i, none⟩ = some (.int .u16 (u i)) := (HT9.out.old.cell (by exact hgv)).trans (HCV.out i hlt)
                                  have hu0 : (0 : Int) ≤ (u i : Int) := by omega
                                  have hu1 : (u i : Int) ≤ 65535 := by omega
                                  go_wp2_with fail
                                  refine (appU_any (w0.heap.size + 5) g9 cap9 T1 (u i) w9 HT9.out.size HT9.out.v (by omega) hui).mono ?_
                                  rintro e w11 ⟨g11, cap11, rfl, hst11, hgr11, hat11⟩
                                  have hT2 : T1 ++ Pl.dec (u i) = Pl.V (Pl.mem u) (drp m d) (i + 1) := by
                                    rw [HVS.out, HT1.out]; simp [Pl.mem]
                                  have hl2 : T1.length + (Pl.dec (u i)).length = (Pl.V (Pl.mem u) (drp m d) (i + 1)).length := by rw [← hT2, List.length_append]
                                  have HT11 := hid (HT9.out.push hgr11 (by rw [hT2] at hst11; exact hst11) (by omega))
                                  rw [hl2]
                                  clear hl2 hT2 hst11 hgr11 hat11 HT9 hcvi
                                  go_wp2_with fail
                                  go_roundg (gk - 1)
                                  case measure => omega
                                  case rel => exact ⟨i + 1, g11, cap11, rfl, by rw [HALK.out]; rfl, by go_num, by omega, by omega, HT11.out⟩
                      · have e : i = n := by omega
                        subst e
                        go_wp2_with fail
                        go_meet
                        case rel => exact ⟨g, cap, rfl, HST.out⟩
              case rest =>
                as_aux_lemma =>
                  clear HT3
                  obtain ⟨g4, cap4, rfl, hst4⟩ := hcut
                  have HT4 := hid hst4
                  have hVl := V_len u (drp m d) n hn
                  clear hst4
                  obtain ⟨Vn, hVn⟩ : ∃ Vn, Vn = Pl.V (Pl.mem u) (drp m d) n := ⟨_, rfl⟩
                  rw [← hVn] at HT4 HLAW hVl ⊢
                  clear hVn
                  have hszw := HT4.out.size
                  go_wp2_with (at_builtin; refine wpList_app _ rfl _ _ 28 rfl i0 (.int .u8 0) Try.underlying28 hi hz0 hz1 hz2 rfl (w0.heap.size + 5) g4 cap4 Vn [125] rfl (by exact HT4.out.v.alloc _) (by simp; omega) ⟨wc.heap.size, 0, none⟩ 1 rfl (by exact news1 _ _) (by simp) (by simp; omega) ?_)
                  intro g5 cap5 w5 hst5 hgr5 hat5
                  have HT5 := hid (HT4.out.push ((Grew.alloc g4 wc _).trans hgr5 (.inl rfl)) hst5 (by omega))
                  clear hst5 hgr5 hat5 hszw HT4
                  have HWL : Hid ((Vn ++ [125]).length = Vn.length + 1) := by
                    have : (Vn ++ [125]).length = Vn.length + 1 := by simp
                    exact this
                  go_wp2_with fail
                  go_loopg [19, 20] (An.length + 1) (fun x x19 x20 wr => ∃ (i k : Nat), x19 = .int .i64 k ∧ x20 = .int .i64 i ∧ i ≤ An.length + 1 ∧ An.length + 1 ≤ i + x ∧ k = (Pl.F (TX.take i)).length ∧ St3 w0 wr g1 cap1 TX g5 cap5 (Vn ++ [125]))
                  case atStart => exact ⟨0, 0, rfl, rfl, by omega, by omega, by simp [Pl.F], HT5.out⟩
                  case round =>
                    as_aux_lemma =>
                      clear HT5
                      obtain ⟨i, k, rfl, rfl, hin, hix, hk, hst⟩ := hrel
                      have HK := hid hk
                      have HST := hid hst
                      have hkl : k ≤ 400001 := by
                        have := F_le (TX.take i)
                        rw [List.length_take, HLEN0.out] at this
                        omega
                      clear hk hst
                      by_cases hlt : i < An.length + 1
                      · have hiT : i < TX.length := by rw [HLEN0.out]; exact hlt
                        obtain ⟨c, hc⟩ : ∃ c, c = TX.getD i 0 := ⟨_, rfl⟩
                        have hct := HST.out.t.cell i hiT
                        rw [← hc] at hct
                        by_cases h32 : c = 32
                        · have HK2 : Hid (k = (Pl.F (TX.take (i + 1))).length) := by
                            have : k = (Pl.F (TX.take (i + 1))).length := by rw [cmp_blank TX i hiT (by rw [← hc]; exact h32)]; exact HK.out
                            exact this
                          replace h32 : (c == 32) = true := by simpa using h32
                          clear hc hiT
                          go_wp2_with fail
                          go_roundg (gk - 1)
                          case measure => omega
                          case rel => exact ⟨i + 1, k, rfl, by go_num, by omega, by omega, HK2.out, HST.out⟩
                        · obtain ⟨hh1, hh2, hh3⟩ := cmp_hit TX (Vn ++ [125]) i hiT (by rw [← hc]; exact h32) HLAW.out
                          rw [← HK.out] at hh1 hh2 hh3
                          have hcw := HST.out.v.cell k hh1
                          rw [hh2, ← hc] at hcw
                          have HK2 : Hid (k + 1 = (Pl.F (TX.take (i + 1))).length) := hh3.symm
                          rw [HWL.out] at hh1
                          replace h32 : (c == 32) = false := by simpa using h32
                          clear hc hiT hh2 hh3
                          go_wp2_with fail
                          go_roundg (gk - 1)
                          case measure => omega
                          case rel => exact ⟨i + 1, k + 1, by go_num, by go_num, by omega, by omega, HK2.out, HST.out⟩
                      · have e : k = Vn.length + 1 := by
                          rw [HK.out, List.take_of_length_le (by rw [HLEN0.out]; omega), HLAW.out, HWL.out]
                        subst e
                        go_wp2_with fail
                        go_ret
                        exact ⟨ret_bool (by simp), HB3.out.trans (HST.out.old.mono (Below.size HB3.out))⟩
end Go.Proofs.Qxb6603127a

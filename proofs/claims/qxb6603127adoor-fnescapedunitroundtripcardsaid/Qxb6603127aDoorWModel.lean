import Derived.Test.Qxb6603127aDoorWUnit
import Derived.Test.Qxb6603127aDoorWIn
namespace Go.Proofs.Qxb6603127aDoor
open Go.ChangeShapes Go.WideShapes Go.ChangeAt Go.RowKit
set_option linter.unusedVariables false

/-- The escape model's answer at six bytes or more that begin with a backslash and a 'u'. -/
def em (a b c d : Int) : Int := if a < 0 ∨ b < 0 ∨ c < 0 ∨ d < 0 then -1 else a * 4096 + b * 256 + c * 16 + d
theorem eu_em (t : Nat → Int) (n : Nat) (h6 : ¬ n < 6) (h0 : t 0 = 92) (h1 : t 1 = 117) : eu t n = em (hv (t 2)) (hv (t 3)) (hv (t 4)) (hv (t 5)) := by
  unfold eu
  rw [if_neg h6, if_neg (by omega), if_neg (by omega)]
  unfold em
  have p0 : pf (fun j => t (2 + j)) 0 = some 0 := rfl
  by_cases g0 : hv (t 2) < 0
  · have := pf_none (pf_stop p0 (by exact g0)) 3
    rw [show pf (fun j => t (2 + j)) 4 = none from this, if_pos (.inl g0)]; rfl
  · have p1 := pf_step p0 (show 0 ≤ hv (t 2) by omega)
    by_cases g1 : hv (t 3) < 0
    · have := pf_none (pf_stop p1 (by exact g1)) 2
      rw [show pf (fun j => t (2 + j)) 4 = none from this, if_pos (.inr (.inl g1))]; rfl
    · have p2 := pf_step p1 (show 0 ≤ hv (t 3) by omega)
      by_cases g2 : hv (t 4) < 0
      · have := pf_none (pf_stop p2 (by exact g2)) 1
        rw [show pf (fun j => t (2 + j)) 4 = none from this, if_pos (.inr (.inr (.inl g2)))]; rfl
      · have p3 := pf_step p2 (show 0 ≤ hv (t 4) by omega)
        by_cases g3 : hv (t 5) < 0
        · have := pf_stop p3 (by exact g3)
          rw [show pf (fun j => t (2 + j)) 4 = none from this, if_pos (.inr (.inr (.inr g3)))]; rfl
        · have p4 := pf_step p3 (show 0 ≤ hv (t 5) by omega)
          rw [if_neg (by omega)]
          have p4' : pf (fun j => t (2 + j)) 4 = some ((((0 * 16 + hv (t 2)) * 16 + hv (t 3)) * 16 + hv (t 4)) * 16 + hv (t 5)) := p4
          rw [p4', Option.getD_some]
          omega

set_option maxHeartbeats 4000000 in
set_option maxRecDepth 100000 in
theorem model_any (t : Nat → Int) (hr : ∀ k, 0 ≤ t k ∧ t k ≤ 255) (b n cap : Nat) (w : World) (hn : n ≤ 1048576)
    (hc : ∀ k, k < n → w.cell? ⟨b, k, none⟩ = some (.int .u8 (t k))) :
    Calls Tryd.prog 9 #[.slice (some ⟨b, 0, none⟩) n cap] w fun e w' => e = .returned (.int .i32 (eu t n)) ∧ w' = w := by
  by_cases h6 : n < 6
  · have hE : Hid (eu t n = -1) := hid (by unfold eu; rw [if_pos h6])
    clear hc hr
    go_enter Tryd.func9, Tryd.ntmps9
    go_wp2
    go_ret
    exact ⟨ret_int hE.out.symm, rfl⟩
  · have c0 : w.cell? ⟨b, 0, none⟩ = some (.int .u8 (t 0)) := hc 0 (by omega)
    have c1 := hc 1 (by omega)
    have h66 : 6 ≤ n := by omega
    by_cases h0 : t 0 = 92
    · by_cases h1 : t 1 = 117
      · have hE := hid (eu_em t n h6 h0 h1)
        have c2 := hc 2 (by omega)
        have c3 := hc 3 (by omega)
        have c4 := hc 4 (by omega)
        have c5 := hc 5 (by omega)
        rw [h0] at c0
        rw [h1] at c1
        have r2 := hr 2
        have r3 := hr 3
        have r4 := hr 4
        have r5 := hr 5
        clear hc hr h0 h1
        generalize eu t n = E at hE ⊢
        generalize t 2 = x2 at c2 hE r2
        generalize t 3 = x3 at c3 hE r3
        generalize t 4 = x4 at c4 hE r4
        generalize t 5 = x5 at c5 hE r5
        have hR := fun c => hid (hv_range c)
        have H2 := hid (fun wx => hexValue_any x2 wx r2.1 r2.2)
        have H3 := hid (fun wx => hexValue_any x3 wx r3.1 r3.2)
        have H4 := hid (fun wx => hexValue_any x4 wx r4.1 r4.2)
        have H5 := hid (fun wx => hexValue_any x5 wx r5.1 r5.2)
        have g2 := hv_range x2
        have g3 := hv_range x3
        have g4 := hv_range x4
        have g5 := hv_range x5
        generalize hv x2 = d2 at hE H2 g2
        generalize hv x3 = d3 at hE H3 g3
        generalize hv x4 = d4 at hE H4 g4
        generalize hv x5 = d5 at hE H5 g5
        have g2 : -1 ≤ d2 ∧ d2 ≤ 15 := by omega
        have g3 : -1 ≤ d3 ∧ d3 ≤ 15 := by omega
        have g4 : -1 ≤ d4 ∧ d4 ≤ 15 := by omega
        have g5 : -1 ≤ d5 ∧ d5 ≤ 15 := by omega
        obtain ⟨g20, g21⟩ := g2
        obtain ⟨g30, g31⟩ := g3
        obtain ⟨g40, g41⟩ := g4
        obtain ⟨g50, g51⟩ := g5
        clear r2 r3 r4 r5
        go_enter Tryd.func9, Tryd.ntmps9
        go_wp2_with fail
        refine (H2.out _).mono ?_
        rintro e w' ⟨rfl, rfl⟩
        go_wp2_with fail
        refine (H3.out _).mono ?_
        rintro e w' ⟨rfl, rfl⟩
        go_wp2_with fail
        refine (H4.out _).mono ?_
        rintro e w' ⟨rfl, rfl⟩
        go_wp2_with fail
        refine (H5.out _).mono ?_
        rintro e w' ⟨rfl, rfl⟩
        go_wp2
        all_goals
          go_ret
          refine ⟨ret_int ?_, rfl⟩
          rw [hE.out]
          unfold em
          split <;> omega
      · have hE : Hid (eu t n = -1) := hid (by unfold eu; rw [if_neg h6, if_neg (by omega), if_pos h1])
        rw [h0] at c0
        clear hc hr
        generalize t 1 = x at c1 h1
        have hx : (x != 117) = true := by simpa using h1
        go_enter Tryd.func9, Tryd.ntmps9
        go_wp2
        go_ret
        exact ⟨ret_int hE.out.symm, rfl⟩
    · have hE : Hid (eu t n = -1) := hid (by unfold eu; rw [if_neg h6, if_pos h0])
      clear hc hr
      generalize t 0 = x at c0 h0
      have hx : (x != 92) = true := by simpa using h0
      go_enter Tryd.func9, Tryd.ntmps9
      go_wp2
      go_ret
      exact ⟨ret_int hE.out.symm, rfl⟩
theorem model_nil (w : World) (t : Nat → Int) (a : Option Addr) (cap : Nat) : Calls Tryd.prog 9 #[.slice a 0 cap] w fun e w' => e = .returned (.int .i32 (eu t 0)) ∧ w' = w := by
  have hE : Hid (eu t 0 = -1) := hid (by unfold eu; rw [if_pos (by omega)])
  go_enter Tryd.func9, Tryd.ntmps9
  go_wp2
  go_ret
  exact ⟨ret_int hE.out.symm, rfl⟩
end Go.Proofs.Qxb6603127aDoor

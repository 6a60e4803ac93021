import Derived.Test.Qxb6603127aDoorFrame
import Derived.Test.Qxb6603127aDoorTie
import Derived.Test.Qxb6603127aDoorCards
import Derived.SevenTiedAt
namespace Go.Proofs.Qxb6603127aDoor.fnEscapedUnitRoundTrip
open Go.ChangeShapes Go.WideShapes Go.ChangeAt Go.RowKit
set_option linter.unusedVariables false

set_option maxRecDepth 100000 in
theorem lifted (os : Os) (started : os.Started) (H : Type) (enc : TypeId × Value → H) :
    ReturnsInHanded {} Tryd.checked os 4 .any (fun w args => (Rows.fnEscapedUnitRoundTripSpec.pre enc Tryd.prog Tryd.f4 [] false w args ∧ laidMet Tryd.prog five w) ∧ sizedMet enc Tryd.prog Tryd.f4 (OpenSpec.ofChange Rows.fnEscapedUnitRoundTripSpec) false w args)
      (Rows.fnEscapedUnitRoundTripSpec.post enc Tryd.prog Tryd.f4 false true false false) := by
  refine returnsInHanded_of_change_and (C := Tryd.checked) (X := fun w _ => laidMet Tryd.prog five w) (fun _ _ _ hh h => h.of_heap hh) own started (by kernel_rfl) Tryd.func4
    (ChangeSpec.witness_at (enc := enc) (C := Tryd.checked) (os := os) (X := fun w _ => laidMet Tryd.prog five w) false (laidWorld os) #[.int .u16 0, .bool false, .slice none 0 0] 8 rfl (by kernel_rfl) (by kernel_rfl) (by kernel_rfl) (by kernel_rfl) (by kernel_rfl) (laidWorld_met os _)) ?_
  intro W base args ds gs before hval0 hW _ _ hL _
  have hval : ∀ (j : Nat) t v, Tryd.f4.params[j]? = some t → args[j]? = some v → Value.okWide Tryd.prog W .any base t v := hval0
  have hW' := hW
  obtain ⟨p, q, hA0, hV, rfl, hfz, hnd⟩ := hW
  have hA : DataW.TrodAll enc Tryd.prog W 0 (fun _ => true) true Tryd.f4.params.toList args.toList ds p := hA0
  rw [Tryd.params4] at hA hval
  obtain ⟨te, pe, hsyn⟩ := syn_of_laid hL
  obtain ⟨v0, vs0, d0, ds0, p0, q0, hargs, rfl, rfl, h0, r0⟩ := trodAll_cons hA
  obtain ⟨v1, vs1, d1, ds1, p1, q1, rfl, rfl, rfl, h1, r1⟩ := trodAll_cons r0
  obtain ⟨v2, vs2, d2, ds2, p2, q2, rfl, rfl, rfl, h2, r2⟩ := trodAll_cons r1
  obtain ⟨rfl, rfl, rfl⟩ := trodAll_nil r2
  obtain rfl : args = #[v0, v1, v2] := by cases args; simp_all
  obtain ⟨rfl, rfl⟩ := trodVars_none hV
  obtain ⟨u, rfl, rfl, rfl, wu⟩ := open_int Tryd.underlying26 (hval 0 26 v0 rfl rfl) h0
  obtain ⟨s, rfl, rfl, rfl⟩ := open_bool Tryd.underlying4 (hval 1 4 v1 rfl rfl) h1
  obtain ⟨a2, len2, cap2, rfl⟩ := okWide_slice Tryd.underlying22 (hval 2 22 v2 rfl rfl)
  have k2 := h2
  have lt2 : ∀ x ∈ p2, x.block < W.heap.size := by obtain ⟨m, hm⟩ := k2; exact DataW.trod_lt m _ _ _ hm
  obtain ⟨t, hr, hl0, w0⟩ : ∃ t : Nat → Int, (∀ k, 0 ≤ t k ∧ t k ≤ 255) ∧ len2 ≤ maxLen ∧ Came W a2 len2 cap2 (fun j => .int .u8 (t j)) := by
    obtain ⟨fuel, hf⟩ := h2
    rcases open_ints Tryd.underlying22 Tryd.underlying5 (by kernel_rfl) hf with ⟨hcs, _⟩ | ⟨x, l, c, zs, hcs, _, hl, hm, hz, _, hcell, hwz⟩
    · simp [Value.cells] at hcs
      obtain ⟨rfl, rfl, rfl⟩ := hcs
      exact ⟨fun _ => 0, fun _ => ⟨Int.le_refl _, by show (0 : Int) ≤ 255; omega⟩, Nat.zero_le _, .inl ⟨rfl, rfl, rfl⟩⟩
    · simp [Value.cells] at hcs
      obtain ⟨rfl, rfl, rfl⟩ := hcs
      have hz' : zs.length = cap2 := by simpa using hz
      refine ⟨fun k => zs[k]?.getD 0, fun k => range_u8 hwz k, by omega, .inr ⟨_, rfl, fun j hj => ?_⟩⟩
      rw [hcell j (by omega), List.getD_eq_getElem?_getD]
  clear hA0 hval0
  have hu : 0 ≤ u ∧ u ≤ 65535 := by
    have h := wu
    simp [Lit.wf, IntKind.min, IntKind.max, IntKind.signed, IntKind.bits] at h
    omega
  have hcall : Calls Tryd.prog 4 #[.int .u16 u, .bool s, .slice a2 len2 cap2] W fun e w' => e = .returned (.bool true) ∧ Below W.heap.size W w' := by
    by_cases hlen : len2 ≤ 1048576
    · exact round_any u hu.1 hu.2 s t hr a2 len2 cap2 W te pe hsyn hlen w0
    · exact round_long u s a2 len2 cap2 W (by omega)
  refine hcall.mono fun e W' ⟨he, bel⟩ => ?_
  subst he
  exact ⟨_, rfl, _, _, _, [], _, [], hW', trodAll_mk1 (shut_bool Tryd.underlying4 _), (trodAll_cons_mk (shut_int Tryd.underlying26 wu) (trodAll_cons_mk (shut_bool Tryd.underlying4 s) (trodAll_cons_mk (Below.trod laidOut (by kernel_rfl) (of_decide_eq_true (by kernel_rfl)) k2 bel lt2) trodAll_mk0))), rfl, bel.frame _, fun h => by cases h⟩

theorem over : Rows.fnEscapedUnitRoundTripRow.holds Tryd.pinned (OpenSpec.ofChange Rows.fnEscapedUnitRoundTripSpec) :=
  OpenClaim.holds_of_wide 4 Tryd.f4 rfl rfl rfl rfl rfl rfl rfl ⟨rfl, rfl, rfl, rfl, rfl⟩ rfl rfl rfl rfl rfl (by kernel_rfl) Tryd.func4 (by kernel_rfl)
    (of_decide_eq_true (by kernel_rfl)) (by unfold Func.isWrapper; first | (rw [if_pos (by decide +kernel)]; kernel_rfl) | (rw [if_neg (by decide +kernel)]; exact ⟨rfl, rfl⟩))
    (fun os started H enc _ => lifted os started H enc)

/-- THE TIED CARD. -/
theorem proved : Rows.FnEscapedUnitRoundTripCardSaid :=
  Claim7.holds_tied_plain_at .later [] [.data, .data, .data, .called, .called] true (true, "c3d3d335600ec2e3cf2674eea20285356b8520039e5d813b04d0bbfb83a5616a") true
    over (fun _ h => by cases h) (by kernel_rfl) (fun _ h => by cases h) fnEscapedUnitRoundTrip_row_tie rfl ⟨rfl, rfl⟩ (by kernel_rfl) rfl
    (fun f fn hf hfn => by
      obtain rfl : f = 4 := Option.some.inj ((show Tryd.prog.funcNamed "example.com/counterstep/counterstep/zzlaws_internal_jsondoc_b1.FnEscapedUnitRoundTrip" = some 4 by kernel_rfl).symm.trans hf) |>.symm
      obtain rfl : fn = Tryd.f4 := (Option.some.inj (Tryd.func4.symm.trans hfn)).symm
      exact ⟨by kernel_rfl, fun j t ht => by
        rw [Tryd.params4] at ht
        have h3 : t = 26 ∨ t = 4 ∨ t = 22 := by
          rcases j with _ | _ | _ | j
          · exact .inl (by simpa using ht.symm)
          · exact .inr (.inl (by simpa using ht.symm))
          · exact .inr (.inr (by simpa using ht.symm))
          · simp at ht
        rcases h3 with rfl | rfl | rfl
        · exact (show Tryd.prog.wantsStandIn 26 = false by kernel_rfl)
        · exact (show Tryd.prog.wantsStandIn 4 = false by kernel_rfl)
        · exact (show Tryd.prog.wantsStandIn 22 = false by kernel_rfl)⟩)
    (by kernel_rfl)
end Go.Proofs.Qxb6603127aDoor.fnEscapedUnitRoundTrip

import Derived.Test.Qxb6603127aWUint
namespace Go.Proofs.Qxb6603127a
open Go.ChangeShapes Go.WideShapes Go.ChangeAt Go.RowKit
set_option linter.unusedVariables false

set_option maxRecDepth 20000 in
set_option maxHeartbeats 400000 in
theorem appK_any (B g cap : Nat) (L : List Int) (k : Nat) (w : World) (hB : B ≤ w.heap.size) (hst : Stk B w g cap L) (hL : L.length ≤ 1000000) (hk : k < 65536) :
    Calls Try.prog 7 #[.slice (some ⟨g, 0, none⟩) L.length cap, .int .i64 k] w fun e w' =>
      ∃ g' cap', e = .returned (.slice (some ⟨g', 0, none⟩) (L.length + (Pl.key k).length) cap') ∧ Stk B w' g' cap' (L ++ Pl.key k) ∧ Grew g w w' ∧ (g' = g ∨ w.heap.size ≤ g') := by
  obtain ⟨i0, hi, hz0, hz1, hz2⟩ := info_parts Try.info5
  have HS : Hid (Stk B w g cap L) := hst
  have hgl := hst.live
  have hdl := Pl.dec_len k
  have HK : Hid (L ++ [34, 107] ++ Pl.dec k ++ [34, 58] = L ++ Pl.key k) := by
    have : L ++ [34, 107] ++ Pl.dec k ++ [34, 58] = L ++ Pl.key k := by simp [Pl.key]
    exact this
  have HKL : Hid ((L ++ [34, 107] ++ Pl.dec k).length + [34, 58].length = L.length + (Pl.key k).length) := by
    have : (L ++ [34, 107] ++ Pl.dec k).length + [34, 58].length = L.length + (Pl.key k).length := by simp [Pl.key]; omega
    exact this
  clear hst
  go_enter Try.func7, Try.ntmps7
  go_wp2_with (at_builtin; refine wpList_app _ rfl _ _ 28 rfl i0 (.int .u8 0) Try.underlying28 hi hz0 hz1 hz2 rfl B g cap L [34, 107] rfl (by exact HS.out.alloc _) (by simp; omega) ⟨w.heap.size, 0, none⟩ 2 rfl (by exact news2 _ _ _) (by simp) (by simp; omega) ?_)
  intro g1 c1 w1 hst1 hgr1 hat1
  have HS1 : Hid (Stk B w1 g1 c1 (L ++ [34, 107])) := hst1
  have HG1 : Hid (Grew g w w1) := (Grew.alloc g w _).trans hgr1 (.inl rfl)
  have hsz1 : w.heap.size ≤ w1.heap.size := HG1.out.size
  have hg1 : g1 = g ∨ w.heap.size ≤ g1 := by omega
  have hl1 := hst1.live
  clear hst1 hgr1 hat1
  go_wp2_with fail
  have H := appU_any B g1 c1 (L ++ [34, 107]) k w1 (by omega) HS1.out (by simp; omega) hk
  have e2 : (L ++ ([34, 107] : List Int)).length = L.length + 2 := by simp
  rw [e2] at H
  clear e2
  refine (Calls.mono H) ?_
  clear H
  rintro e w2 ⟨g2, c2, rfl, hst2, hgr2, hat2⟩
  have HS2 : Hid (Stk B w2 g2 c2 (L ++ [34, 107] ++ Pl.dec k)) := hst2
  have HG2 : Hid (Grew g w w2) := HG1.out.trans hgr2 (by omega)
  have hsz2 : w1.heap.size ≤ w2.heap.size := hgr2.size
  have hg2 : g2 = g ∨ w.heap.size ≤ g2 := by omega
  have HL2 : Hid ((L ++ [34, 107] ++ Pl.dec k).length = L.length + 2 + (Pl.dec k).length) := by
    have : (L ++ [34, 107] ++ Pl.dec k).length = L.length + 2 + (Pl.dec k).length := by simp; omega
    exact this
  clear hst2 hgr2 hat2
  go_wp2_with (at_builtin; refine wpList_app _ rfl _ _ 28 rfl i0 (.int .u8 0) Try.underlying28 hi hz0 hz1 hz2 rfl B g2 c2 (L ++ [34, 107] ++ Pl.dec k) [34, 58] (by rw [HL2.out]; rfl) (by exact HS2.out.alloc _) (by simp; omega) ⟨w2.heap.size, 0, none⟩ 2 rfl (by exact news2 _ _ _) (by simp) (by rw [HL2.out]; simp; omega) ?_)
  intro g3 c3 w3 hst3 hgr3 hat3
  have HS3 : Hid (Stk B w3 g3 c3 (L ++ Pl.key k)) := by
    have h3 : Stk B w3 g3 c3 (L ++ [34, 107] ++ Pl.dec k ++ [34, 58]) := by simpa using hst3
    rw [HK.out] at h3
    exact h3
  have HG3 : Hid (Grew g w w3) := (HG2.out.trans (Grew.alloc g2 w2 _) (by omega)).trans hgr3 (by omega)
  have hg3 : g3 = g ∨ w.heap.size ≤ g3 := by omega
  clear hst3 hgr3 hat3
  go_wp2_with fail
  go_ret
  exact ⟨g3, c3, ret_sl (by simp [Pl.key]; omega), HS3.out, HG3.out, hg3⟩
end Go.Proofs.Qxb6603127a

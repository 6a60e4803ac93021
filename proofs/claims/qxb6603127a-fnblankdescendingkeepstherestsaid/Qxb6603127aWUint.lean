import Derived.Test.Qxb6603127aMem
import Derived.Deep.LoopGhost
import Derived.Deep.CutRange
import Derived.Deep.CutBlock
namespace Go.Proofs.Qxb6603127a
open Go.ChangeShapes Go.WideShapes Go.ChangeAt Go.RowKit
set_option linter.unusedVariables false

theorem ret_sl {a : Option Addr} {n m c : Nat} (h : n = m) : Ending.returned (.slice a n c) = .returned (.slice a m c) := by rw [h]

/-- The array 'digits' in block D: from k on it holds acc. -/
structure Digs (w : World) (D k : Nat) (acc : List Int) : Prop where
  live : D < w.heap.size
  there : ∀ j, j < 20 → (∃ v, w.cell? ⟨D, j, none⟩ = some v) ∧ w.frozen? ⟨D, j, none⟩ = false
  len : k + acc.length = 20
  holds : ∀ j, j < acc.length → w.cell? ⟨D, k + j, none⟩ = some (.int .u8 (acc.getD j 0))
theorem Digs.other {w w' : World} {D k g : Nat} {acc : List Int} (h : Digs w D k acc) (hg : Grew g w w') (hne : D ≠ g) : Digs w' D k acc :=
  ⟨Nat.lt_of_lt_of_le h.live hg.size, fun j hj => by
    rw [hg.cell (p := ⟨D, j, none⟩) h.live hne, hg.frozen (p := ⟨D, j, none⟩) h.live hne]; exact h.there j hj, h.len, fun j hj => by
    rw [hg.cell (p := ⟨D, k + j, none⟩) h.live hne]; exact h.holds j hj⟩
theorem Digs.put {w : World} {D k : Nat} {acc : List Int} (h : Digs w D (k + 1) acc) (c : Int) : Digs (w.setCell ⟨D, k, none⟩ (.int .u8 c)) D k (c :: acc) := by
  have hl := h.len
  obtain ⟨⟨v, hv⟩, _⟩ := h.there k (by omega)
  have ho : ∀ j, j ≠ k → (w.setCell ⟨D, k, none⟩ (.int .u8 c)).cell? ⟨D, j, none⟩ = w.cell? ⟨D, j, none⟩ := fun j hj =>
    World.cell?_setCells_out D [.int .u8 c] k w ⟨D, j, none⟩ (fun _ _ => by simp; omega)
  refine ⟨by simpa [World.setCell] using h.live, fun j hj => ⟨?_, by rw [World.frozen?_setCell]; exact (h.there j hj).2⟩, by simp; omega, fun j hj => ?_⟩
  · by_cases e : j = k
    · subst e; exact ⟨_, World.cell?_setCell_same' _ _ _ (by rw [hv]; rfl)⟩
    · rw [ho j e]; exact (h.there j hj).1
  · cases j with
    | zero => exact World.cell?_setCell_same' _ _ _ (by rw [hv]; rfl)
    | succ j =>
      rw [show k + (j + 1) = k + 1 + j by omega, ho _ (by omega), h.holds j (by simpa using hj)]
      simp [List.getD_eq_getElem?_getD]

theorem digs_new (w : World) (cs : Array Value) (h : cs.size = 20) (t : TypeId) : Digs (w.alloc (.cells cs t)) w.heap.size 20 [] := by
  have hh : (w.alloc (.cells cs t)).heap[w.heap.size]? = some (.cells cs t (0, 0)) := heap_alloc_new w _
  refine ⟨by simp, fun j hj => ⟨⟨cs[j], ?_⟩, frozen_of_row _ _ j cs t hh⟩, by simp, fun j hj => by simp at hj⟩
  rw [cell_of_row _ _ j cs t (0, 0) hh, Array.getElem?_eq_getElem (by omega)]

theorem pow_step {v k : Nat} (h : v < 10 ^ (k + 1)) : v / 10 < 10 ^ k := by
  rw [Nat.pow_succ] at h
  exact Nat.div_lt_of_lt_mul (by rw [Nat.mul_comm]; exact h)
theorem pow_pos_of {v k : Nat} (h : v / 10 < 10 ^ k) (h0 : v / 10 ≠ 0) : 0 < k := by
  rcases Nat.eq_zero_or_pos k with e | e
  · subst e; simp at h; omega
  · exact e
theorem small_pow {v : Nat} (h : v < 65536) : v < 10 ^ 20 := Nat.lt_of_lt_of_le h (by decide)

set_option maxRecDepth 20000 in
set_option maxHeartbeats 400000 in
theorem appU_any (B g cap : Nat) (L : List Int) (v : Nat) (w : World) (hB : B ≤ w.heap.size) (hst : Stk B w g cap L) (hL : L.length ≤ 10000000) (hv : v < 65536) :
    Calls Try.prog 8 #[.slice (some ⟨g, 0, none⟩) L.length cap, .int .u64 v] w fun e w' =>
      ∃ g' cap', e = .returned (.slice (some ⟨g', 0, none⟩) (L.length + (Pl.dec v).length) cap') ∧ Stk B w' g' cap' (L ++ Pl.dec v) ∧ Grew g w w' ∧ (g' = g ∨ w.heap.size ≤ g') := by
  obtain ⟨i0, hi, hz0, hz1, hz2⟩ := info_parts Try.info5
  have HD : Hid (∀ cs : Array Value, cs.size = 20 → ∀ t, Digs (w.alloc (.cells cs t)) w.heap.size 20 []) := fun cs h t => digs_new w cs h t
  have HS : Hid (Stk B w g cap L) := hst
  have HP : Hid (v < 10 ^ 20) := small_pow hv
  have hgl := hst.live
  clear hst
  go_enter Try.func8, Try.ntmps8
  go_wp2_with fail
  go_loopg [1, 6] 20 (fun x x1 x6 wr => ∃ (u k : Nat) (acc : List Int), x1 = .int .u64 u ∧ x6 = .int .i64 ((k : Int) + 1) ∧ k < 20 ∧ k ≤ x ∧ u < 65536 ∧ u < 10 ^ (k + 1) ∧ Digs wr w.heap.size (k + 1) acc ∧ Pl.dec v = Pl.decF (k + 1) u acc ∧ Grew g w wr ∧ Stk B wr g cap L)
  case atStart => exact ⟨v, 19, [], rfl, rfl, by omega, by omega, hv, HP.out, HD.out _ rfl _, rfl, Grew.alloc _ _ _, HS.out.alloc _⟩
  case round =>
    clear HD HP HS
    obtain ⟨u, k, acc, rfl, rfl, hk, hkx, hu, hpow, hd, hdec, hgr, hst⟩ := hrel
    have hsz := hgr.size
    obtain ⟨⟨v0, hc0⟩, hf0⟩ := hd.there k (by omega)
    have HD2 : Hid _ := hd.put (48 + (u : Int) % 10)
    have HG2 : Hid (Grew g w (wr.setCell ⟨w.heap.size, k, none⟩ (.int .u8 (48 + (u : Int) % 10)))) := hgr.trans (Grew.setCell w.heap.size wr k _) (.inr (Nat.le_refl _))
    have HS2 : Hid (Stk B (wr.setCell ⟨w.heap.size, k, none⟩ (.int .u8 (48 + (u : Int) % 10))) g cap L) := hst.other (Grew.setCell w.heap.size wr k _) (by omega)
    have HE : Hid _ := hdec
    have HPW : Hid (u / 10 < 10 ^ k) := pow_step hpow
    clear hd hdec hgr hpow hst
    by_cases hz : u / 10 = 0
    · have HA : Hid (Pl.dec v = (48 + (u : Int) % 10) :: acc) := by
        have := HE.out
        simp only [Pl.decF] at this
        rw [if_pos hz] at this
        exact this
      have hz' : ((u : Int) / 10 == 0) = true := by simp; omega
      clear hz HE
      go_wp2_with fail
      generalize wr.setCell ⟨w.heap.size, k, none⟩ (.int .u8 (48 + (u : Int) % 10)) = w2 at HD2 HG2 HS2 ⊢
      obtain ⟨ac, hac⟩ : ∃ ac, ac = (48 + (u : Int) % 10) :: acc := ⟨_, rfl⟩
      have HAC : Hid (Pl.dec v = ac) := by
        have := HA.out
        rw [← hac] at this
        exact this
      rw [← hac] at HD2
      have hlen := HD2.out.len
      clear HA hac hc0 hf0
      go_loopg [0, 6] 21 (fun x x0 x6 wr => ∃ (j g' cap' : Nat), x0 = .slice (some ⟨g', 0, none⟩) (L.length + j) cap' ∧ x6 = .int .i64 ((k : Int) + j) ∧ j ≤ ac.length ∧ 21 ≤ j + x ∧ Digs wr w.heap.size k ac ∧ Grew g w wr ∧ Stk B wr g' cap' (L ++ ac.take j) ∧ (g' = g ∨ w.heap.size < g'))
      case atStart => exact ⟨0, g, cap, by simp, by simp, by omega, by omega, HD2.out, HG2.out, by simpa using HS2.out, .inl rfl⟩
      case round =>
        clear HD2 HG2 HS2 hsz
        obtain ⟨j, g', cap', rfl, rfl, hj, hjx, hd, hgr, hst, hat⟩ := hrel
        have HD : Hid _ := hd
        have HG : Hid _ := hgr
        have HS : Hid _ := hst
        have hsz := hgr.size
        have HLJ : Hid ((L ++ ac.take j).length = L.length + j) := by
          have : (L ++ ac.take j).length = L.length + j := by simp; omega
          exact this
        by_cases hlt : j < ac.length
        · obtain ⟨c, hc⟩ : ∃ c, c = ac.getD j 0 := ⟨_, rfl⟩
          have hcj := hd.holds j hlt
          rw [← hc] at hcj
          have HCJ : Hid (ac.take (j + 1) = ac.take j ++ [c]) := by
            have : ac.take (j + 1) = ac.take j ++ [c] := by
              rw [hc, List.take_add_one]; simp [List.getD_eq_getElem?_getD, hlt]
            exact this
          clear hd hgr hst hc
          go_wp2_with (at_builtin; refine wpList_app _ rfl _ _ 28 rfl i0 (.int .u8 0) Try.underlying28 hi hz0 hz1 hz2 rfl B g' cap' (L ++ ac.take j) [c] (by rw [HLJ.out]; rfl) (by exact HS.out.alloc _) (by simp; omega) ⟨wr.heap.size, 0, none⟩ 1 rfl (by exact news1 _ _) (by simp) (by rw [HLJ.out]; simp; omega) ?_)
          intro g2 cap2 w3 hst3 hgr3 hat3
          have HS3 : Hid (Stk B w3 g2 cap2 (L ++ ac.take (j + 1))) := by
            have h3 : Stk B w3 g2 cap2 (L ++ (ac.take j ++ [c])) := by simpa only [List.append_assoc] using hst3
            rw [← HCJ.out] at h3
            exact h3
          have HG3 : Hid (Grew g w w3) := (HG.out.trans (Grew.alloc g' wr _) (by omega)).trans hgr3 (by omega)
          have HD3 : Hid (Digs w3 w.heap.size k ac) := (HD.out.other (Grew.alloc g' wr _) (by omega)).other hgr3 (by omega)
          have hat4 : g2 = g ∨ w.heap.size < g2 := by omega
          clear hst3 hgr3 hat3
          go_wp2_with fail
          go_roundg (gk - 1)
          case measure => omega
          case rel => exact ⟨j + 1, g2, cap2, by simp [Nat.add_assoc], by simp; omega, by omega, by omega, HD3.out, HG3.out, HS3.out, hat4⟩
        · have HF : Hid (L ++ ac.take j = L ++ Pl.dec v) := by
            have : L ++ ac.take j = L ++ Pl.dec v := by rw [HAC.out, List.take_of_length_le (by omega)]
            exact this
          have HFL : Hid (L.length + j = L.length + (Pl.dec v).length) := by
            have : L.length + j = L.length + (Pl.dec v).length := by rw [HAC.out]; omega
            exact this
          clear hd hgr hst
          go_wp2_with fail
          go_ret
          exact ⟨g', cap', ret_sl HFL.out, by rw [← HF.out]; exact HS.out, HG.out, by omega⟩
    · have HA : Hid (Pl.dec v = Pl.decF k (u / 10) ((48 + (u : Int) % 10) :: acc)) := by
        have := HE.out
        simp only [Pl.decF] at this
        rw [if_neg hz] at this
        exact this
      have hk0 := pow_pos_of HPW.out hz
      have hz' : ((u : Int) / 10 == 0) = false := by simp; omega
      clear hz HE
      go_wp2_with fail
      go_roundg (k - 1)
      case measure => omega
      case rel => exact ⟨u / 10, k - 1, _, by go_num, by go_num, by omega, by omega, by omega, by rw [show k - 1 + 1 = k by omega]; exact HPW.out, by rw [show k - 1 + 1 = k by omega]; exact HD2.out, by rw [show k - 1 + 1 = k by omega]; exact HA.out, HG2.out, HS2.out⟩
end Go.Proofs.Qxb6603127a

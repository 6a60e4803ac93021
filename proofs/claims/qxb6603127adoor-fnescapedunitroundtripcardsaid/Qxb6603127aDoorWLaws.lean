import Derived.Test.Qxb6603127aDoorWModel
import Derived.Laws.AppendOwn
import Derived.Laws.Rows
import Derived.Below
import Derived.Laws.BitsLemmas
namespace Go.Proofs.Qxb6603127aDoor
open Go.ChangeShapes Go.WideShapes Go.ChangeAt Go.RowKit
set_option linter.unusedVariables false

theorem unit_copied (t : Nat → Int) (hr : ∀ k, 0 ≤ t k ∧ t k ≤ 255) (a : Option Addr) (n cap : Nat) (w : World) (te : TypeId) (pe : Value) (hv : w.cell? ⟨0, 0, none⟩ = some (.iface te pe)) (hn : n ≤ 1048582) (hcap : n ≤ cap)
    (hc : Copied w a n (fun j => .int .u8 (t j))) :
    Calls Tryd.prog 8 #[.slice a n cap] w fun e w' => e = .returned (.int .i32 (eu t n)) ∧ Below w.heap.size w w' := by
  rcases hc with rfl | ⟨g, rfl, _, hc⟩
  · exact zzUnit _ w _ (unit_nil w t a cap) _ (fun _ _ h => h) ⟨_, _, _, rfl⟩
  · exact zzUnit _ w _ (unit_any t hr g 0 n cap w te pe hv hn hcap (fun k hk => by rw [Nat.zero_add]; exact hc k hk)) _ (fun _ _ h => h) ⟨_, _, _, rfl⟩
theorem model_copied (t : Nat → Int) (hr : ∀ k, 0 ≤ t k ∧ t k ≤ 255) (a : Option Addr) (n cap : Nat) (w : World) (hn : n ≤ 1048576)
    (hc : Copied w a n (fun j => .int .u8 (t j))) :
    Calls Tryd.prog 9 #[.slice a n cap] w fun e w' => e = .returned (.int .i32 (eu t n)) ∧ w' = w := by
  rcases hc with rfl | ⟨g, rfl, _, hc⟩
  · exact model_nil w t a cap
  · exact model_any t hr g n cap w hn hc

set_option maxRecDepth 20000 in
theorem exact_long (a : Option Addr) (n c : Nat) (w : World) (h : 1048576 < n) :
    Calls Tryd.prog 3 #[.slice a n c] w fun e w' => e = .returned (.bool true) ∧ Below w.heap.size w w' := by
  have H := hid (fun wx => bytes6_no a n c wx h)
  go_enter Tryd.func3, Tryd.ntmps3
  go_wp2_with fail
  refine (H.out _).mono ?_
  rintro e w' ⟨rfl, rfl⟩
  go_wp2_with fail
  go_ret
  exact ⟨rfl, Below.refl _ _⟩

set_option maxRecDepth 20000 in
theorem exact_any (t : Nat → Int) (hr : ∀ k, 0 ≤ t k ∧ t k ≤ 255) (a : Option Addr) (n c : Nat) (w : World) (te : TypeId) (pe : Value) (hv : w.cell? ⟨0, 0, none⟩ = some (.iface te pe)) (h : n ≤ 1048576)
    (hc : Came w a n c (fun j => .int .u8 (t j))) :
    Calls Tryd.prog 3 #[.slice a n c] w fun e w' => e = .returned (.bool true) ∧ Below w.heap.size w w' := by
  have H0 := hid (fun wx => bytes6_yes a n c wx h)
  have H1 := hid (cl_any a n c (fun j => .int .u8 (t j)) (fun _ => rfl) w h hc)
  have hG : 0 < w.heap.size := Lib.lt_of_cell hv
  have HV : Hid _ := hv
  have HR : Hid _ := hr
  clear hc hv hr
  go_enter Tryd.func3, Tryd.ntmps3
  go_wp2_with fail
  refine (H0.out _).mono ?_
  rintro e w' ⟨rfl, rfl⟩
  go_wp2_with fail
  refine H1.out.mono ?_
  rintro e w1 ⟨a', c', rfl, hc', hcop, hb1⟩
  have H2 := hid (unit_copied t HR.out a' n c' w1 te pe ((hb1.cell (show (⟨0, 0, none⟩ : Addr).block < w'.heap.size from hG)).trans HV.out) (by omega) hc' hcop)
  have HC : Hid _ := hcop
  have HB1 : Hid _ := hb1
  clear hcop hb1 H1 H0
  go_wp2_with fail
  refine H2.out.mono ?_
  rintro e w2 ⟨rfl, hb2⟩
  have H3 := hid (model_copied t HR.out a' n c' w2 h (Copied.later (w := w1) HC.out hb2))
  have HB2 : Hid _ := hb2
  clear hb2 H2
  go_wp2_with fail
  refine H3.out.mono ?_
  rintro e w3 ⟨rfl, rfl⟩
  go_wp2_with fail
  go_ret
  exact ⟨ret_bool (by simp), HB1.out.trans (HB2.out.mono HB1.out.size)⟩

set_option maxRecDepth 20000 in
theorem round_long (u : Int) (up : Bool) (a : Option Addr) (n c : Nat) (w : World) (h : 1048576 < n) :
    Calls Tryd.prog 4 #[.int .u16 u, .bool up, .slice a n c] w fun e w' => e = .returned (.bool true) ∧ Below w.heap.size w w' := by
  have H := hid (fun wx => bytes10_no u up a n c wx h)
  go_enter Tryd.func4, Tryd.ntmps4
  go_wp2_with fail
  refine (H.out _).mono ?_
  rintro e w' ⟨rfl, rfl⟩
  go_wp2_with fail
  go_ret
  exact ⟨rfl, Below.refl _ _⟩

/-- A cell of a row that is owned. -/
theorem own_cell {B g n k : Nat} {wr : World} {xs : List Value} (hk : k < n)
    (hown : wr.ownsRow B 5 1 (.slice (some ⟨g, 0, none⟩) n n) n xs) : ∃ v, wr.cell? ⟨g, k, none⟩ = some v ∧ wr.frozen? ⟨g, k, none⟩ = false := by
  have hl : xs.length = n * 1 := hown.1
  have := hown.cellAt k (by omega)
  rw [List.getElem?_eq_getElem (by omega)] at this
  exact ⟨_, this, hown.frozenAt k⟩

theorem wraps_u16 (n : Int) (h0 : 0 ≤ n) (h1 : n < 2 ^ 16) : IntKind.u16.wrap n = n := by
  simp [IntKind.wrap, IntKind.bits, IntKind.signed]
  omega
theorem and15 (x : Int) (h0 : 0 ≤ x) (h1 : x < 65536) : bits .and .u16 x 15 = x % 16 := bits_mask .u16 16 (by decide) wraps_u16 4 (by decide) x h0 h1
theorem own_heap {B g n : Nat} {wr : World} {xs : List Value} (hown : wr.ownsRow B 5 1 (.slice (some ⟨g, 0, none⟩) n n) n xs) : wr.heap[g]? = some (.cells xs.toArray 5 (0, 0)) := by
  obtain ⟨h1, h2⟩ := hown
  rcases h2 with ⟨h, _⟩ | ⟨g', cap, cur, hv, hb, hg, hl, hm, hs, ht⟩
  · cases h
  · cases hv
    rw [List.take_of_length_le (by rw [Array.length_toList]; omega)] at ht
    rw [hg, ← ht, Array.toArray_toList]

theorem add_plain (g j : Nat) : (⟨g, 0, none⟩ : Addr).add j = ⟨g, j, none⟩ := by unfold Addr.add; split <;> simp_all
/-- The six stores. -/
abbrev six (w : World) (g : Nat) (a b c d : Int) : World :=
  (((((w.setCell ⟨g, 0, none⟩ (.int .u8 92)).setCell ⟨g, 1, none⟩ (.int .u8 117)).setCell ⟨g, 2, none⟩ (.int .u8 a)).setCell ⟨g, 3, none⟩ (.int .u8 b)).setCell ⟨g, 4, none⟩ (.int .u8 c)).setCell ⟨g, 5, none⟩ (.int .u8 d)
def sixL (xs : List Value) (a b c d : Int) : List Value :=
  (((((xs.set 0 (.int .u8 92)).set 1 (.int .u8 117)).set 2 (.int .u8 a)).set 3 (.int .u8 b)).set 4 (.int .u8 c)).set 5 (.int .u8 d)
theorem sixL_len (xs : List Value) (a b c d : Int) : (sixL xs a b c d).length = xs.length := by simp [sixL]
theorem sixL_take (xs : List Value) (a b c d : Int) (h : 6 ≤ xs.length) : (sixL xs a b c d).take 6 = [.int .u8 92, .int .u8 117, .int .u8 a, .int .u8 b, .int .u8 c, .int .u8 d] := by
  rcases xs with _ | ⟨x0, _ | ⟨x1, _ | ⟨x2, _ | ⟨x3, _ | ⟨x4, _ | ⟨x5, r⟩⟩⟩⟩⟩⟩
  all_goals first | (simp at h; done) | rfl
theorem six_own {B g n : Nat} {w : World} {xs : List Value} (hown : w.ownsRow B 5 1 (.slice (some ⟨g, 0, none⟩) n n) n xs) (a b c d : Int) :
    (six w g a b c d).ownsRow B 5 1 (.slice (some ⟨g, 0, none⟩) n n) n (sixL xs a b c d) :=
  ((((((hown.stored 0 _).1.stored 1 _).1.stored 2 _).1.stored 3 _).1.stored 4 _).1.stored 5 _).1
theorem six_below {B g : Nat} {w0 w : World} (hb : Below B w0 w) (hg : B ≤ g) (a b c d : Int) : Below B w0 (six w g a b c d) :=
  (((((hb.setCell hg _).setCell hg _).setCell hg _).setCell hg _).setCell hg _).setCell hg _
/-- The bytes of the buffer. -/
def bufT (t : Nat → Int) (a b c d : Int) : Nat → Int
  | 0 => 92 | 1 => 117 | 2 => a | 3 => b | 4 => c | 5 => d | k + 6 => t k
theorem buf_splice (xs : List Value) (t : Nat → Int) (n : Nat) (a b c d : Int) (h : xs.length = (6 + n) * 1) (j : Nat) (hj : j < 6 + n) :
    (splice (sixL xs a b c d) 6 (row (fun j => .int .u8 (t j)) n))[j]? = some (.int .u8 (bufT t a b c d j)) := by
  unfold splice
  rw [sixL_take _ _ _ _ _ (by omega), row_len, List.drop_of_length_le (by rw [sixL_len]; omega), List.append_nil]
  rcases j with _ | _ | _ | _ | _ | _ | j
  · rfl
  · rfl
  · rfl
  · rfl
  · rfl
  · rfl
  · rw [List.getElem?_append_right (by simp)]
    simp [row, bufT, show j < n by omega]
theorem bufT_range (t : Nat → Int) (hr : ∀ k, 0 ≤ t k ∧ t k ≤ 255) (a b c d : Int) (ha : 0 ≤ a ∧ a ≤ 255) (hb : 0 ≤ b ∧ b ≤ 255) (hc : 0 ≤ c ∧ c ≤ 255) (hd : 0 ≤ d ∧ d ≤ 255) : ∀ k, 0 ≤ bufT t a b c d k ∧ bufT t a b c d k ≤ 255
  | 0 => (by decide : (0 : Int) ≤ 92 ∧ (92 : Int) ≤ 255) | 1 => (by decide : (0 : Int) ≤ 117 ∧ (117 : Int) ≤ 255) | 2 => ha | 3 => hb | 4 => hc | 5 => hd | k + 6 => hr k
theorem buf_unit (t : Nat → Int) (n : Nat) (u : Int) (h0 : 0 ≤ u) (h1 : u ≤ 65535) (up : Bool) :
    eu (bufT t (hxd (u / 4096) up) (hxd (u / 256 % 16) up) (hxd (u / 16 % 16) up) (hxd (u % 16) up)) (6 + n) = u := by
  rw [eu_em _ _ (by omega) rfl rfl]
  show em (hv (hxd (u / 4096) up)) (hv (hxd (u / 256 % 16) up)) (hv (hxd (u / 16 % 16) up)) (hv (hxd (u % 16) up)) = u
  rw [hv_hxd _ _ (by omega) (by omega), hv_hxd _ _ (by omega) (by omega), hv_hxd _ _ (by omega) (by omega), hv_hxd _ _ (by omega) (by omega)]
  unfold em
  rw [if_neg (by omega)]
  omega

theorem splice_none (cur : List Value) (f : Nat → Value) : splice cur 6 (row f 0) = cur := by simp [splice, row]
/-- The buffer, written, read back. -/
theorem round_fin (u : Int) (hu0 : 0 ≤ u) (hu1 : u ≤ 65535) (up : Bool) (t : Nat → Int) (hr : ∀ k, 0 ≤ t k ∧ t k ≤ 255) (n g : Nat) (h : n ≤ 1048576) (xs : List Value) (hx : xs.length = (6 + n) * 1) (w1 w3 : World) (te : TypeId) (pe : Value)
    (hv : w1.cell? ⟨0, 0, none⟩ = some (.iface te pe))
    (hg : w3.heap[g]? = some (.cells (splice (sixL xs (hxd (u / 4096) up) (hxd (u / 256 % 16) up) (hxd (u / 16 % 16) up) (hxd (u % 16) up)) 6 (row (fun j => .int .u8 (t j)) n)).toArray 5 (0, 0))) (hb : Below w1.heap.size w1 w3) :
    Calls Tryd.prog 8 #[.slice (some ⟨g, 0, none⟩) (6 + n) (6 + n)] w3 fun e w' => e = .returned (.int .i32 u) ∧ Below w3.heap.size w3 w' := by
  have hG1 : 0 < w1.heap.size := Lib.lt_of_cell hv
  have hc : Copied w3 (some ⟨g, 0, none⟩) (6 + n) (fun j => .int .u8 (bufT t (hxd (u / 4096) up) (hxd (u / 256 % 16) up) (hxd (u / 16 % 16) up) (hxd (u % 16) up) j)) :=
    .inr ⟨g, rfl, (Array.getElem?_eq_some_iff.mp hg).1, fun j hj => by
      rw [cell_of_row _ _ j _ 5 (0, 0) hg, List.getElem?_toArray]
      exact buf_splice xs t n _ _ _ _ hx j hj⟩
  have hT := bufT_range t hr (hxd (u / 4096) up) (hxd (u / 256 % 16) up) (hxd (u / 16 % 16) up) (hxd (u % 16) up) (hxd_range _ _ (by omega) (by omega)) (hxd_range _ _ (by omega) (by omega)) (hxd_range _ _ (by omega) (by omega)) (hxd_range _ _ (by omega) (by omega))
  have hu := unit_copied _ hT (some ⟨g, 0, none⟩) (6 + n) (6 + n) w3 te pe ((hb.cell (show (⟨0, 0, none⟩ : Addr).block < w1.heap.size from hG1)).trans hv) (by omega) (Nat.le_refl _) hc
  rw [buf_unit t n u hu0 hu1 up] at hu
  exact hu

set_option maxHeartbeats 4000000 in
set_option maxRecDepth 20000 in
theorem round_any (u : Int) (hu0 : 0 ≤ u) (hu1 : u ≤ 65535) (up : Bool) (t : Nat → Int) (hr : ∀ k, 0 ≤ t k ∧ t k ≤ 255) (a : Option Addr) (n c : Nat) (w : World) (te : TypeId) (pe : Value) (hv : w.cell? ⟨0, 0, none⟩ = some (.iface te pe)) (h : n ≤ 1048576)
    (hc : Came w a n c (fun j => .int .u8 (t j))) :
    Calls Tryd.prog 4 #[.int .u16 u, .bool up, .slice a n c] w fun e w' => e = .returned (.bool true) ∧ Below w.heap.size w w' := by
  obtain ⟨i0, hi, hz0, hz1, hz2⟩ := info_parts Tryd.info5
  have H0 := hid (fun wx => bytes10_yes u up a n c wx h)
  have H1 := hid (cl_any a n c (fun j => .int .u8 (t j)) (fun _ => rfl) w h hc)
  have hG : 0 < w.heap.size := Lib.lt_of_cell hv
  have HV : Hid _ := hv
  have HR : Hid _ := hr
  clear hc hv hr
  go_enter Tryd.func4, Tryd.ntmps4
  go_wp2_with fail
  refine (H0.out _).mono ?_
  rintro e w' ⟨rfl, rfl⟩
  go_wp2_with fail
  refine H1.out.mono ?_
  rintro e w1 ⟨a', c', rfl, hc', hcop, hb1⟩
  have hG1 : 0 < w1.heap.size := Nat.lt_of_lt_of_le hG hb1.size
  have HV1 := hid ((hb1.cell (show (⟨0, 0, none⟩ : Addr).block < w'.heap.size from hG)).trans HV.out)
  have HC : Hid (Copied w1 a' n (fun j => .int .u8 (t j))) := hcop
  have HB1 : Hid _ := hb1
  clear hcop hb1 H1 H0
  go_wp2_with (at_make; refine wpList_make_full _ rfl _ _ 22 rfl w1.heap.size 5 i0 (.int .u8 0) 1 Tryd.underlying22 hi hz0 hz1 .i64 .i64 (6 + n : Nat) (6 + n : Nat) (6 + n) rfl rfl rfl rfl (by rw [hz2]; omega) (by unfold maxLen; omega) (Nat.le_refl _) ?_)
  intro w2 hown hgr
  have hb2 : Below w1.heap.size w1 w2 := (Below.refl _ _).grown hgr (Nat.le_refl _) (fun k h => by cases h)
  clear hgr
  obtain ⟨v0, hc0, hf0⟩ := own_cell (k := 0) (by omega) hown
  obtain ⟨v1, hc1, hf1⟩ := own_cell (k := 1) (by omega) hown
  obtain ⟨v2, hc2, hf2⟩ := own_cell (k := 2) (by omega) hown
  obtain ⟨v3, hc3, hf3⟩ := own_cell (k := 3) (by omega) hown
  obtain ⟨v4, hc4, hf4⟩ := own_cell (k := 4) (by omega) hown
  obtain ⟨v5, hc5, hf5⟩ := own_cell (k := 5) (by omega) hown
  have HB2 : Hid _ := hb2
  have HO := hid (six_own hown (hxd (u / 4096) up) (hxd (u / 256 % 16) up) (hxd (u / 16 % 16) up) (hxd (u % 16) up))
  have HX := hid hown.1
  have hsz : (Tryd.prog.info? 5).map (·.size) = some 1 := by kernel_rfl
  have HW : Hid (Below w1.heap.size w1 (six w2 w1.heap.size (hxd (u / 4096) up) (hxd (u / 256 % 16) up) (hxd (u / 16 % 16) up) (hxd (u % 16) up))) := six_below hb2 (Nat.le_refl _) _ _ _ _
  have HS : Hid (0 < (row (fun j => Value.int .u8 (t j)) n).length → ∃ ad, a' = some ad ∧ ∀ j v, (row (fun j => Value.int .u8 (t j)) n)[j]? = some v → (six w2 w1.heap.size (hxd (u / 4096) up) (hxd (u / 256 % 16) up) (hxd (u / 16 % 16) up) (hxd (u % 16) up)).cell? (ad.add j) = some v) := fun hp => by
    rw [row_len] at hp
    rcases HC.out with h0 | ⟨g, ha, hl, hcl⟩
    · omega
    · refine ⟨_, ha, fun j v hj => ?_⟩
      obtain ⟨hlt, rfl⟩ := row_get hj
      rw [add_plain, HW.out.cell (show (⟨g, j, none⟩ : Addr).block < w1.heap.size from hl)]
      exact hcl j hlt
  generalize (madeCells #[Value.int .u8 0] (6 + n)).toList = xs at HO HX
  clear hown hb2
  go_wp2_with fail
  refine (hxd_any (u / 4096) up (by omega) (by omega) _).mono ?_
  rintro e wz ⟨rfl, rfl⟩
  go_wp2_with fail
  rw [and15 (u / 256) (by omega) (by omega)]
  refine (hxd_any (u / 256 % 16) up (by omega) (by omega) _).mono ?_
  rintro e wz ⟨rfl, rfl⟩
  go_wp2_with fail
  rw [and15 (u / 16) (by omega) (by omega)]
  refine (hxd_any (u / 16 % 16) up (by omega) (by omega) _).mono ?_
  rintro e wz ⟨rfl, rfl⟩
  go_wp2_with fail
  rw [and15 u (by omega) (by omega)]
  refine (hxd_any (u % 16) up (by omega) (by omega) _).mono ?_
  rintro e wz ⟨rfl, rfl⟩
  by_cases hn0 : n = 0
  · subst hn0
    have HF := hid (round_fin u hu0 hu1 up t HR.out 0 w1.heap.size h xs HX.out w1 (six w2 w1.heap.size (hxd (u / 4096) up) (hxd (u / 256 % 16) up) (hxd (u / 16 % 16) up) (hxd (u % 16) up)) te pe HV1.out (by rw [splice_none]; exact own_heap HO.out) HW.out)
    have HB3 : Hid (Below w'.heap.size w' (six w2 w1.heap.size (hxd (u / 4096) up) (hxd (u / 256 % 16) up) (hxd (u / 16 % 16) up) (hxd (u % 16) up))) := HB1.out.trans (HW.out.mono HB1.out.size)
    go_wp2_with (refine wpList_copy_nothing rfl _ _ 22 22 rfl 5 Tryd.underlying22 hsz _ _ 0 0 0 c' rfl rfl rfl ?_)
    clear HO HW HS hc0 hc1 hc2 hc3 hc4 hc5 hf0 hf1 hf2 hf3 hf4 hf5
    go_wp2_with fail
    refine HF.out.mono ?_
    rintro e w4 ⟨rfl, hb4⟩
    go_wp2_with fail
    go_ret
    exact ⟨ret_bool (by simp), HB3.out.trans (hb4.mono HB3.out.size)⟩
  · have hnp : 0 < n := by omega
    go_wp2_with (refine wpList_copy_splice rfl _ _ 22 22 rfl 5 Tryd.underlying22 hsz _ _ n n n c' rfl rfl w1.heap.size 6 (sixL xs (hxd (u / 4096) up) (hxd (u / 256 % 16) up) (hxd (u / 16 % 16) up) (hxd (u % 16) up)) 5 ?_ (row (fun j => .int .u8 (t j)) n) (by rw [row_len]; exact (Nat.min_self n).symm) (fun hp => ⟨rfl, ?_⟩) (by have := HX.out; rw [row_len, sixL_len]; omega) (fun v hv => by unfold row at hv; simp only [List.mem_map] at hv; obtain ⟨j, _, rfl⟩ := hv; rfl) w1.heap.size w1 ?_ (Nat.le_refl _) ?_)
    · exact own_heap HO.out
    · exact HS.out hp
    · exact HW.out
    intro w3 hg3 hb3
    have HF := hid (round_fin u hu0 hu1 up t HR.out n w1.heap.size h xs HX.out w1 w3 te pe HV1.out hg3.out hb3)
    have HB3 : Hid (Below w'.heap.size w' w3) := HB1.out.trans (hb3.mono HB1.out.size)
    clear HO HW HS hc0 hc1 hc2 hc3 hc4 hc5 hf0 hf1 hf2 hf3 hf4 hf5 hg3 hb3
    go_wp2_with fail
    refine HF.out.mono ?_
    rintro e w4 ⟨rfl, hb4⟩
    go_wp2_with fail
    go_ret
    exact ⟨ret_bool (by simp), HB3.out.trans (hb4.mono HB3.out.size)⟩
end Go.Proofs.Qxb6603127aDoor

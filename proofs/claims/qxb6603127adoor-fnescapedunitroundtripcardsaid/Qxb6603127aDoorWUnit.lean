import Derived.Test.Qxb6603127aDoorWErr
import Derived.Laws.BytesArg
namespace Go.Proofs.Qxb6603127aDoor
open Go.ChangeShapes Go.WideShapes Go.ChangeAt Go.RowKit
set_option linter.unusedVariables false

set_option maxHeartbeats 4000000 in
set_option maxRecDepth 100000 in
/-- strconv.ParseUint(s, 16, 16) at four hexadecimal digits. -/
theorem parse_ok (s : ByteArray) (hs : s.size = 4) (t : Nat → Int) (ht : ∀ j, j < 4 → ((s.data.toList.getD j 0).toNat : Int) = t j) (w : World) (a : Int) (h : pf t 4 = some a) :
    Calls Tryd.prog 15 #[.string s, .int .i64 16, .int .i64 16] w fun e w' => e = .returned (.tuple #[.int .u64 a, .nilIface]) ∧ Below w.heap.size w w' := by
  have hI := intParse_any s hs t ht w
  rw [h] at hI
  have hI : Calls Tryd.prog 16 #[.string s, .int .i64 16, .int .i64 16] w fun e w' => e = .returned (.tuple #[.int .u64 a, .nilIface]) ∧ w' = Lib.bytesWorld w 5 s := hI
  clear h ht
  go_enter Tryd.func15, Tryd.ntmps15
  go_wp2_with (go_at_call 16; refine hI.mono ?_; rintro e W1 ⟨rfl, hW⟩)
  go_wp2
  go_ret2
  subst hW
  exact ⟨rfl, Lib.bytesWorld_below _ _ _⟩
set_option maxHeartbeats 4000000 in
set_option maxRecDepth 100000 in
/-- strconv.ParseUint(s, 16, 16) at four bytes of which one is no digit. -/
theorem parse_bad (s : ByteArray) (hs : s.size = 4) (t : Nat → Int) (ht : ∀ j, j < 4 → ((s.data.toList.getD j 0).toNat : Int) = t j) (w : World) (te : TypeId) (pe : Value) (hv : w.cell? ⟨0, 0, none⟩ = some (.iface te pe)) (h : pf t 4 = none) :
    Calls Tryd.prog 15 #[.string s, .int .i64 16, .int .i64 16] w fun e w' => ∃ N, e = .returned (.tuple #[.int .u64 0, .iface 41 (.pointer (some ⟨N, 0, none⟩))]) ∧ Below w.heap.size w w' := by
  have hG : 0 < w.heap.size := Lib.lt_of_cell hv
  have hI := intParse_any s hs t ht w
  rw [h] at hI
  have hI : Calls Tryd.prog 16 #[.string s, .int .i64 16, .int .i64 16] w fun e w' => e = .returned (.tuple #[.int .u64 0, .iface 38 (.int .i64 2)]) ∧ w' = Lib.bytesWorld w 5 s := hI
  clear h ht
  go_enter Tryd.func15, Tryd.ntmps15
  go_wp2_with (go_at_call 16; refine hI.mono ?_)
  rintro e W1 ⟨rfl, hW⟩
  have hb1 : Below w.heap.size w W1 := by subst hW; exact Lib.bytesWorld_below _ _ _
  have hv1 : W1.cell? ⟨0, 0, none⟩ = some (.iface te pe) := (hb1.cell (show (⟨0, 0, none⟩ : Addr).block < w.heap.size from hG)).trans hv
  clear hW
  go_wp2_with (go_at_call 17; refine (toError_any ⟨#[80, 97, 114, 115, 101, 85, 105, 110, 116]⟩ s 16 16 te pe _ (by omega) (by omega) hv1).mono ?_)
  rintro e W2 ⟨N, rfl, h3⟩
  go_wp2
  go_ret2
  exact ⟨N, rfl, hb1.trans (h3.mono hb1.size)⟩

/-- What escapedUnit answers on n bytes t. -/
def eu (t : Nat → Int) (n : Nat) : Int :=
  if n < 6 then -1 else if t 0 ≠ 92 then -1 else if t 1 ≠ 117 then -1 else (pf (fun j => t (2 + j)) 4).getD (-1)

theorem str4 (t : Nat → Int) (hr : ∀ k, 0 ≤ t k ∧ t k ≤ 255) : ∀ j, j < 4 → (((strOfNums [t 2, t 3, t 4, t 5]).data.toList.getD j 0).toNat : Int) = t (2 + j) := fun j hj => by
  rw [strOfNums_data]
  have h : ∀ k, ((UInt8.ofNat (t k).toNat).toNat : Int) = t k := fun k => by
    have := hr k
    simp
    omega
  rcases j with _ | _ | _ | _ | j
  · exact h 2
  · exact h 3
  · exact h 4
  · exact h 5
  · omega

set_option maxHeartbeats 4000000 in
set_option maxRecDepth 100000 in
theorem unit_any (t : Nat → Int) (hr : ∀ k, 0 ≤ t k ∧ t k ≤ 255) (b off n cap : Nat) (w : World) (te : TypeId) (pe : Value) (hv : w.cell? ⟨0, 0, none⟩ = some (.iface te pe)) (hn : n ≤ 1048582) (hcap : n ≤ cap)
    (hc : ∀ k, k < n → w.cell? ⟨b, off + k, none⟩ = some (.int .u8 (t k))) :
    Calls Tryd.prog 13 #[.slice (some ⟨b, off, none⟩) n cap] w fun e w' => e = .returned (.int .i32 (eu t n)) ∧ Below w.heap.size w w' := by
  by_cases h6 : n < 6
  · have hE : Hid (eu t n = -1) := hid (by unfold eu; rw [if_pos h6])
    clear hc hr
    go_enter Tryd.func13, Tryd.ntmps13
    go_wp2
    go_ret
    exact ⟨ret_int hE.out.symm, Below.refl _ _⟩
  · have c0 : w.cell? ⟨b, off, none⟩ = some (.int .u8 (t 0)) := hc 0 (by omega)
    have h66 : 6 ≤ n := by omega
    have c1 := hc 1 (by omega)
    by_cases h0 : t 0 = 92
    · by_cases h1 : t 1 = 117
      · have hcv := run_convert_bytes_arg (P := Tryd.prog) w 22 5 Tryd.underlying22 Tryd.underlying5 b (off + 2) 4 (cap - 2) [t 2, t 3, t 4, t 5] rfl (fun i hi => by
          rw [Nat.add_assoc, hc (2 + i) (by omega)]
          rcases i with _ | _ | _ | _ | i
          · rfl
          · rfl
          · rfl
          · rfl
          · omega) 9 Tryd.underlying9
        have hs4 := str4 t hr
        have hsz : (strOfNums [t 2, t 3, t 4, t 5]).size = 4 := strOfNums_size _
        generalize strOfNums [t 2, t 3, t 4, t 5] = s at hcv hs4 hsz
        rw [h0] at c0
        rw [h1] at c1
        cases hp : pf (fun j => t (2 + j)) 4 with
        | some a =>
          have hE : Hid (eu t n = a) := hid (by unfold eu; rw [if_neg h6, if_neg (by omega), if_neg (by omega), hp]; rfl)
          obtain ⟨a0, a1⟩ := pf_bound hp
          have hP := hid (parse_ok s hsz (fun j => t (2 + j)) hs4 w a hp)
          clear hc hr hs4 hp h0 h1 hsz
          have a1 : a < 65536 := by simpa using a1
          go_enter Tryd.func13, Tryd.ntmps13
          go_wp2_with (go_at_call 15; refine hP.out.mono ?_; rintro e W1 ⟨rfl, hW⟩)
          go_ret
          exact ⟨ret_int hE.out.symm, hW⟩
        | none =>
          have hE : Hid (eu t n = -1) := hid (by unfold eu; rw [if_neg h6, if_neg (by omega), if_neg (by omega), hp]; rfl)
          have hP := hid (parse_bad s hsz (fun j => t (2 + j)) hs4 w te pe hv hp)
          clear hc hr hs4 hp h0 h1 hsz
          go_enter Tryd.func13, Tryd.ntmps13
          go_wp2_with (go_at_call 15; refine hP.out.mono ?_; rintro e W1 ⟨N, rfl, hW⟩)
          go_ret
          exact ⟨ret_int hE.out.symm, hW⟩
      · have hE : Hid (eu t n = -1) := hid (by unfold eu; rw [if_neg h6, if_neg (by omega), if_pos h1])
        rw [h0] at c0
        clear hc hr
        generalize t 1 = x at c1 h1
        have hx : (x != 117) = true := by simpa using h1
        go_enter Tryd.func13, Tryd.ntmps13
        go_wp2
        go_ret
        exact ⟨ret_int hE.out.symm, Below.refl _ _⟩
    · have hE : Hid (eu t n = -1) := hid (by unfold eu; rw [if_neg h6, if_pos h0])
      clear hc hr
      generalize t 0 = x at c0 h0
      have hx : (x != 92) = true := by simpa using h0
      go_enter Tryd.func13, Tryd.ntmps13
      go_wp2
      go_ret
      exact ⟨ret_int hE.out.symm, Below.refl _ _⟩
theorem unit_nil (w : World) (t : Nat → Int) (a : Option Addr) (cap : Nat) : Calls Tryd.prog 13 #[.slice a 0 cap] w fun e w' => e = .returned (.int .i32 (eu t 0)) ∧ Below w.heap.size w w' := by
  have hE : Hid (eu t 0 = -1) := hid (by unfold eu; rw [if_pos (by omega)])
  go_enter Tryd.func13, Tryd.ntmps13
  go_wp2
  go_ret
  exact ⟨ret_int hE.out.symm, Below.refl _ _⟩
theorem zzUnit (v : Value) (w : World) (Q : Ending → World → Prop) (h : Calls Tryd.prog 13 #[v] w Q) (z : Int) (hQ : ∀ e w', Q e w' → e = .returned (.int .i32 z) ∧ Below w.heap.size w w')
    (hv : ∃ a n c, v = .slice a n c) :
    Calls Tryd.prog 8 #[v] w fun e w' => e = .returned (.int .i32 z) ∧ Below w.heap.size w w' := by
  obtain ⟨a, n, c, rfl⟩ := hv
  have hP := hid (h.mono hQ)
  clear h hQ
  go_enter Tryd.func8, Tryd.ntmps8
  go_wp2_with (go_at_call 13; refine hP.out.mono ?_; rintro e W1 ⟨rfl, hW⟩)
  go_ret
  exact ⟨rfl, hW⟩
end Go.Proofs.Qxb6603127aDoor

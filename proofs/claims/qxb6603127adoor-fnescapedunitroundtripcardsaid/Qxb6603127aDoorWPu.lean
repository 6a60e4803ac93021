import Derived.Test.Qxb6603127aDoorWHex
import Derived.Lib.Strings
import Derived.Lib.Walk
import Derived.Lib.ConvBytes
import Derived.Lib.AtoiAllMem
import Derived.Lib.Hide
import Derived.Laws.Strings3
import Derived.Laws.Closers25
import Derived.Laws.Closers25b
import Derived.WalkKit
import Derived.BigCall
import Derived.BigGuard
namespace Go.Proofs.Qxb6603127aDoor
open Go.ChangeShapes Go.WideShapes Go.ChangeAt Go.RowKit
set_option linter.unusedVariables false

/-- The number that the first k bytes spell in base 16; none: one of them is no digit. -/
def pf (t : Nat → Int) : Nat → Option Int
  | 0 => some 0
  | k + 1 => match pf t k with
    | some a => if hv (t k) < 0 then none else some (a * 16 + hv (t k))
    | none => none
theorem pf_step {t : Nat → Int} {k : Nat} {a : Int} (h : pf t k = some a) (hd : 0 ≤ hv (t k)) : pf t (k + 1) = some (a * 16 + hv (t k)) := by
  simp only [pf, h]; rw [if_neg (by omega)]
theorem pf_stop {t : Nat → Int} {k : Nat} {a : Int} (h : pf t k = some a) (hd : hv (t k) < 0) : pf t (k + 1) = none := by
  simp only [pf, h]; rw [if_pos hd]
theorem pf_none {t : Nat → Int} {k : Nat} (h : pf t k = none) : ∀ j, pf t (k + j) = none
  | 0 => h
  | j + 1 => by have := pf_none h j; rw [← Nat.add_assoc]; simp only [pf, this]
theorem pf_bound {t : Nat → Int} : ∀ {k : Nat} {a : Int}, pf t k = some a → 0 ≤ a ∧ a < (16 : Int) ^ k
  | 0, a, h => by cases h; simp
  | k + 1, a, h => by
    simp only [pf] at h
    cases hb : pf t k with
    | none => rw [hb] at h; cases h
    | some b =>
      rw [hb] at h
      simp only at h
      split at h
      · cases h
      · obtain ⟨h1, h2⟩ := pf_bound hb
        cases h
        have := hv_range (t k)
        rw [Int.pow_succ]
        omega
theorem pf_small {t : Nat → Int} {k : Nat} {a : Int} (h : pf t k = some a) (hk : k < 4) : 0 ≤ a ∧ a ≤ 4095 := by
  obtain ⟨h1, h2⟩ := pf_bound h
  refine ⟨h1, ?_⟩
  rcases k with _ | _ | _ | _ | k
  · simp at h2; omega
  · simp at h2; omega
  · simp at h2; omega
  · simp at h2; omega
  · omega

/-- What internal/strconv.ParseUint answers. -/
def puOut (o : Option Int) : Value := match o with
  | some a => .tuple #[.int .u64 a, .nilIface]
  | none => .tuple #[.int .u64 0, .iface 38 (.int .i64 2)]

set_option maxHeartbeats 32000000 in
set_option maxRecDepth 100000 in
theorem intParse_any (s : ByteArray) (hs : s.size = 4) (t : Nat → Int) (ht : ∀ j, j < 4 → ((s.data.toList.getD j 0).toNat : Int) = t j) (w : World) :
    Calls Tryd.prog 16 #[.string s, .int .i64 16, .int .i64 16] w fun e w' => e = .returned (puOut (pf t 4)) ∧ w' = Lib.bytesWorld w 5 s := by
  have hemp : s.toList.isEmpty = false := by
    rw [← decide_eq_emptyBytes]
    exact decide_eq_false (fun h => absurd hs (by rw [h]; decide))
  have hcv := Lib.run_convert_string_bytes (P := Tryd.prog) w 9 22 5 s (u := .string) Tryd.underlying9 Tryd.underlying22 Tryd.underlying5
  have hB : ∀ j, j < 4 → (Lib.bytesWorld w 5 s).cell? ⟨w.heap.size, j, none⟩ = some (.int .u8 (t j)) := fun j hj => by
    rw [← ht j hj]; exact Lib.bytesWorld_cell w 5 s j (by omega)
  obtain ⟨W1, hW1⟩ : ∃ W1, W1 = Lib.bytesWorld w 5 s := ⟨_, rfl⟩
  rw [← hW1] at hcv hB ⊢
  clear hW1
  have hr : ∀ j, j < 4 → 0 ≤ t j ∧ t j ≤ 255 := fun j hj => by
    rw [← ht j hj]
    have := (s.data.toList.getD j 0).toNat_lt
    omega
  clear ht
  rw [hs] at hcv
  go_enter Tryd.func16, Tryd.ntmps16
  go_wp2
  go_loop [12, 13, 101] (fun vu vn vi => ∃ (k : Nat) (a : Int), vu = .bool false ∧ vn = .int .u64 a ∧ vi = .int .i64 k ∧ k ≤ 4 ∧ Hid (pf t k = some a))
    (fun _ _ vi => 4 - (intOf vi).toNat)
  case atStart => exact ⟨0, 0, rfl, rfl, rfl, by omega, rfl⟩
  case round =>
    obtain ⟨k, a, rfl, rfl, rfl, hk, hh⟩ := hrel
    by_cases hkn : k < 4
    · have hc := hB k hkn
      obtain ⟨a0, a1⟩ := pf_small hh.out hkn
      obtain ⟨c0, c1⟩ := hr k hkn
      have hstep : 0 ≤ hv (t k) → Hid (pf t (k + 1) = some (a * 16 + hv (t k))) := fun h => hid (pf_step hh.out h)
      have hstop : hv (t k) < 0 → Hid (pf t 4 = none) := fun h => hid (by
        have := pf_none (pf_stop hh.out h) (3 - k)
        rwa [show k + 1 + (3 - k) = 4 from by omega] at this)
      clear hB hr hh
      generalize t k = c at hc c0 c1 hstep hstop
      rcases low_cases c c0 c1 with hd | ⟨hd, l0, l1, hl⟩ | ⟨hd, l0, l1, hl⟩ | ⟨hd, l0, hl⟩
      · obtain ⟨d0, d1⟩ := hd
        have hvc : hv c = c - 48 := by unfold hv; rw [if_pos ⟨d0, d1⟩]
        have HN := hstep (by omega)
        rw [hvc] at HN
        clear hstep hstop hvc
        go_wp2
        exact ⟨⟨k + 1, a * 16 + (c - 48), rfl, by first | rfl | (congr 1; omega), by first | rfl | (congr 1; omega), by omega, HN⟩, by simp [intOf]; omega⟩
      · have hne : c ≠ 95 := fun h => by subst h; revert l1; decide
        have HN := hstep (by omega)
        rw [hl] at HN
        clear hstep hstop
        go_wp2_with (go_at_call 18; refine (lower_any _ _).mono ?_; rintro e w' ⟨rfl, rfl⟩)
        all_goals exact ⟨⟨k + 1, a * 16 + (low c - 87), rfl, by first | rfl | (congr 1; omega), by first | rfl | (congr 1; omega), by omega, HN⟩, by simp [intOf]; omega⟩
      · have HN := hstop (by omega)
        have hne : c ≠ 95 := fun h => by subst h; revert l1; decide
        clear hstep hstop
        go_wp2_with (go_at_call 18; refine (lower_any _ _).mono ?_; rintro e w' ⟨rfl, rfl⟩)
        all_goals go_ret2
        all_goals exact ⟨by rw [HN.out]; rfl, rfl⟩
      · have HN := hstop (by omega)
        clear hstep hstop
        by_cases hne : c = 95
        · subst hne
          have hl95 : low 95 = 127 := by decide
          go_wp2_with (go_at_call 18; refine (lower_any _ _).mono ?_; rintro e w' ⟨rfl, rfl⟩)
          all_goals go_ret2
          all_goals exact ⟨by rw [HN.out]; rfl, rfl⟩
        · go_wp2_with (go_at_call 18; refine (lower_any _ _).mono ?_; rintro e w' ⟨rfl, rfl⟩)
          all_goals go_ret2
          all_goals exact ⟨by rw [HN.out]; rfl, rfl⟩
    · have hkk : k = 4 := by omega
      subst hkk
      have hF : Hid (pf t 4 = some a) := hh
      clear hB hr
      go_wp2
      go_ret2
      exact ⟨by rw [hF.out]; rfl, rfl⟩
end Go.Proofs.Qxb6603127aDoor

import Derived.Test.Qxb6603099aProg
import Derived.Test.Qxb6603099aPlainStr2
import Derived.WalkKit
import Derived.ProofKit
namespace Go.Proofs.Qxb6603099a
open Go.ChangeShapes Go.WideShapes Go.ChangeAt Go.RowKit

theorem ret_bool {a b : Bool} (h : a = b) : Ending.returned (.bool a) = .returned (.bool b) := by rw [h]
theorem ret_int {k : IntKind} {a b : Int} (h : a = b) : Ending.returned (.int k a) = .returned (.int k b) := by rw [h]

theorem isHex_any (c : Int) (w : World) :
    Calls Try.prog 39 #[.int .u8 c] w fun e w' => e = .returned (.bool (Pl.hexB c)) ∧ w' = w := by
  go_enter Try.func39, Try.ntmps39
  go_wp2
  all_goals
    go_ret
    exact ⟨ret_bool (by rw [Bool.eq_iff_iff]; simp [Pl.hexB]; try omega), rfl⟩

set_option maxRecDepth 20000 in
set_option maxHeartbeats 800000 in
theorem validString_any (t : Nat → Int) (b off n cap i : Nat) (w : World) (hn : n ≤ 1048576) (hi : i < n)
    (hc : ∀ k, k < n → w.cell? ⟨b, off + k, none⟩ = some (.int .u8 (t k))) :
    Calls Try.prog 30 #[.slice (some ⟨b, off, none⟩) n cap, .int .i64 i] w fun e w' => e = .returned (.int .i64 (Pl.vS t n (i + 1))) ∧ w' = w := by
  go_enter Try.func30, Try.ntmps30
  go_wp2
  go_loop [1] (fun x => ∃ k : Nat, k ≤ n ∧ x = .int .i64 k ∧ Pl.vS t n (i + 1) = Pl.vS t n k) (fun x => n - (intOf x).toNat)
  case atStart => exact ⟨i + 1, by omega, by go_num, rfl⟩
  case round =>
    obtain ⟨k, hk, rfl, he⟩ := hrel
    have HE : Hid (Pl.vS t n (i + 1) = Pl.vS t n k) := he
    clear he
    have h0 : k < n → w.cell? ⟨b, off + k, none⟩ = some (.int .u8 (t k)) := hc k
    have h1 : k + 1 < n → w.cell? ⟨b, off + (k + 1), none⟩ = some (.int .u8 (t (k + 1))) := hc (k + 1)
    have h2 : k + 2 < n → w.cell? ⟨b, off + (k + 2), none⟩ = some (.int .u8 (t (k + 2))) := hc (k + 2)
    have h3 : k + 3 < n → w.cell? ⟨b, off + (k + 3), none⟩ = some (.int .u8 (t (k + 3))) := hc (k + 3)
    have h4 : k + 4 < n → w.cell? ⟨b, off + (k + 4), none⟩ = some (.int .u8 (t (k + 4))) := hc (k + 4)
    have h5 : k + 5 < n → w.cell? ⟨b, off + (k + 5), none⟩ = some (.int .u8 (t (k + 5))) := hc (k + 5)
    clear hc
    by_cases hlt : k < n
    · replace h0 := h0 hlt
      by_cases hq : (t k == 34) = true
      · clear h1 h2 h3 h4 h5
        go_wp2
        go_ret
        have hq' : t k = 34 := by simpa using hq
        exact ⟨ret_int (by rw [HE.out, Pl.vS_eq hlt, if_pos hq']), rfl⟩
      · replace hq : (t k == 34) = false := by simpa using hq
        have hq0 : t k ≠ 34 := by simpa using hq
        have hq' : Hid (t k ≠ 34) := hq0
        by_cases hb : (t k == 92) = true
        · have hb' : t k = 92 := by simpa using hb
          have H : Hid (Pl.vS t n k = if n ≤ k + 1 then -1
              else if Pl.escB (t (k + 1)) = true then Pl.vS t n (k + 2)
              else if t (k + 1) = 117 then
                if k + 5 < n ∧ Pl.hexB (t (k + 2)) = true ∧ Pl.hexB (t (k + 3)) = true ∧ Pl.hexB (t (k + 4)) = true ∧ Pl.hexB (t (k + 5)) = true then Pl.vS t n (k + 6) else -1
              else -1) := by
            have := Pl.vS_eq (t := t) hlt
            rw [if_neg hq0, if_neg (by omega), if_pos hb'] at this
            exact this
          have hg : 32 ≤ t k := by omega
          clear hb' hq0
          by_cases hlt1 : k + 1 < n
          · replace h1 := h1 hlt1
            by_cases hu : (t (k + 1) == 117) = true
            · have hu' : t (k + 1) = 117 := by simpa using hu
              have ne : ¬ Pl.escB (t (k + 1)) = true := by rw [hu']; decide
              have H' : Hid (Pl.vS t n k = if k + 5 < n ∧ Pl.hexB (t (k + 2)) = true ∧ Pl.hexB (t (k + 3)) = true ∧ Pl.hexB (t (k + 4)) = true ∧ Pl.hexB (t (k + 5)) = true then Pl.vS t n (k + 6) else -1) := by
                have := H.out
                rw [if_neg (by omega), if_neg ne, if_pos hu'] at this
                exact this
              clear ne hu' H
              by_cases hlt5 : k + 5 < n
              · replace h2 := h2 (by omega)
                replace h3 := h3 (by omega)
                replace h4 := h4 (by omega)
                replace h5 := h5 (by omega)
                go_wp2_with (go_at_call 39; refine (isHex_any _ _).mono ?_; rintro e w' ⟨rfl, rfl⟩)
                all_goals first
                  | (go_ret
                     exact ⟨ret_int (by rw [HE.out, H'.out, if_neg]; intro hx; simp_all; try omega), rfl⟩)
                  | (go_round
                     case rel =>
                       exact ⟨k + 6, by omega, by go_num, by rw [HE.out, H'.out, if_pos]; simp_all⟩
                     case measure => simp [intOf]; omega)
              · clear h2 h3 h4 h5
                go_wp2
                go_ret
                exact ⟨ret_int (by rw [HE.out, H'.out, if_neg (fun h => hlt5 h.1)]), rfl⟩
            · replace hu : (t (k + 1) == 117) = false := by simpa using hu
              clear h2 h3 h4 h5
              go_wp2_with fail
              all_goals first
                | (go_round
                   case rel =>
                     have hE : Pl.escB (t (k + 1)) = true := by simp [Pl.escB, *]
                     exact ⟨k + 2, by omega, by go_num, by rw [HE.out, H.out, if_neg (by omega), if_pos hE]⟩
                   case measure => simp [intOf]; omega)
                | (go_ret
                   have hE : Pl.escB (t (k + 1)) = false := by simp [Pl.escB, *]
                   have hu' : t (k + 1) ≠ 117 := by simpa using hu
                   exact ⟨ret_int (by rw [HE.out, H.out, if_neg (by omega), if_neg (by rw [hE]; simp), if_neg hu']), rfl⟩)
          · clear h1 h2 h3 h4 h5
            go_wp2
            go_ret
            exact ⟨ret_int (by rw [HE.out, H.out, if_pos (by omega)]), rfl⟩
        · replace hb : (t k == 92) = false := by simpa using hb
          have hb0 : t k ≠ 92 := by simpa using hb
          have hb' : Hid (t k ≠ 92) := hb0
          clear hb0 hq0 h1 h2 h3 h4 h5
          go_wp2
          · go_ret
            exact ⟨ret_int (by rw [HE.out, Pl.vS_eq hlt, if_neg hq'.out, if_pos (by assumption)]), rfl⟩
          · go_round
            case rel => exact ⟨k + 1, by omega, by go_num, by rw [HE.out, Pl.vS_eq hlt, if_neg hq'.out, if_neg (by omega), if_neg hb'.out]⟩
            case measure => simp [intOf]; omega
    · clear h1 h2 h3 h4 h5
      go_wp2
      go_ret
      exact ⟨ret_int (by rw [HE.out, Pl.vS_end (by omega)]), rfl⟩
end Go.Proofs.Qxb6603099a

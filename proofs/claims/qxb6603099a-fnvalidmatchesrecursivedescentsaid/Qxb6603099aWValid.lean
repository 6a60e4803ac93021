import Derived.Test.Qxb6603099aProg
import Derived.Test.Qxb6603099aPlainMc
import Derived.Test.Qxb6603099aWStk
import Derived.Test.Qxb6603099aWScal
import Derived.Test.Qxb6603099aWSkip
import Derived.Test.Qxb6603099aWClone
import Derived.WalkKit
import Derived.ProofKit
import Derived.Deep.QuietTactic
import Derived.BigQuiet
import Derived.Deep.CutRange
import Derived.Deep.CutBlock
import Derived.Deep.LoopGhost
import Derived.Deep.Light
namespace Go.Proofs.Qxb6603099a
open Go.ChangeShapes Go.WideShapes Go.ChangeAt Go.RowKit
set_option linter.unusedVariables false

theorem stk_room (w : World) (cs : Array Value) (h : cs.size = 32) : Stk w.heap.size (w.alloc (.cells cs 28)) w.heap.size 32 [] := by
  have hh : (w.alloc (.cells cs 28)).heap[w.heap.size]? = some (.cells cs 28 (0, 0)) := heap_alloc_new w _
  refine ⟨Nat.le_refl _, by simp, by unfold maxLen; omega, fun j hj => by simp at hj, fun j hj => ⟨?_, frozen_of_row _ _ j cs 28 hh⟩, by simp⟩
  rw [cell_of_row _ _ j cs 28 (0, 0) hh, Array.getElem?_eq_getElem (by omega)]; rfl

/-- What holds at the head of a round: the stack, the old memory, the state. -/
structure Inv (w : World) (t : Nat → Int) (n : Nat) (wr : World) (g c : Nat) (L : List Int) : Prop where
  stk : Stk w.heap.size wr g c L
  len : L.length ≤ 10000
  old : Below w.heap.size w wr
theorem Inv.text {w wr : World} {t : Nat → Int} {n g c b off : Nat} {L : List Int} (h : Inv w t n wr g c L) (hb : n = 0 ∨ b < w.heap.size)
    (hc : ∀ k, k < n → w.cell? ⟨b, off + k, none⟩ = some (.int .u8 (t k))) : ∀ k, k < n → wr.cell? ⟨b, off + k, none⟩ = some (.int .u8 (t k)) :=
  fun k hk => (h.old.cell (by show b < _; omega)).trans (hc k hk)
theorem Inv.size {w wr : World} {t : Nat → Int} {n g c : Nat} {L : List Int} (h : Inv w t n wr g c L) : w.heap.size ≤ wr.heap.size := h.old.size
theorem Inv.later {w wr w' : World} {t : Nat → Int} {n g c : Nat} {L : List Int} (h : Inv w t n wr g c L) (hb : Below wr.heap.size wr w') : Inv w t n w' g c L :=
  ⟨h.stk.same hb, h.len, h.old.trans (hb.mono h.old.size)⟩
theorem Inv.drewN {w wr : World} {t : Nat → Int} {n g c : Nat} {L : List Int} (h : Inv w t n wr g c L) (k : Nat) : Inv w t n (wr.drewN k) g c L := h.later (below_drewN (Below.refl _ _) k)
theorem Inv.pop {w wr : World} {t : Nat → Int} {n g c : Nat} {L : List Int} {o : Int} (h : Inv w t n wr g c (L ++ [o])) : Inv w t n wr g c L :=
  ⟨h.stk.pop, by have := h.len; simp at this; omega, h.old⟩

set_option maxRecDepth 20000 in
set_option maxHeartbeats 1000000 in
theorem valid_any (t : Nat → Int) (ht : ∀ k, 0 ≤ t k ∧ t k ≤ 255) (b off n cap : Nat) (w : World) (hn : n ≤ 1048576) (hcap : n ≤ cap) (hb : n = 0 ∨ b < w.heap.size)
    (hc : ∀ k, k < n → w.cell? ⟨b, off + k, none⟩ = some (.int .u8 (t k))) :
    Calls Try.prog 11 #[.slice (some ⟨b, off, none⟩) n cap] w fun e w' => e = .returned (.bool (Pl.vd t n)) ∧ Below w.heap.size w w' := by
  obtain ⟨i0, hi, hz0, hz1, hz2⟩ := info_parts Try.info5
  have HC : Hid (∀ k, k < n → w.cell? ⟨b, off + k, none⟩ = some (.int .u8 (t k))) := hc
  have HT : Hid (∀ k, 0 ≤ t k ∧ t k ≤ 255) := ht
  have HB : Hid (n = 0 ∨ b < w.heap.size) := hb
  have HI : Hid (∀ cs : Array Value, cs.size = 32 → Inv w t n (w.alloc (.cells cs 28)) w.heap.size 32 []) := fun cs h => ⟨stk_room w cs h, by simp, (Below.refl _ _).alloc (Nat.le_refl _) _⟩
  clear hc ht hb
  go_enter Try.func11, Try.ntmps11
  go_wp2_with fail
  refine (skip_any t b off n cap 0 _ hn (Nat.zero_le _) (by exact (HI.out _ rfl).text HB.out HC.out)).mono ?_
  rintro e w1 ⟨rfl, hw1⟩
  have HI1 : Inv w t n w1 w.heap.size 32 [] := by rw [hw1]; exact HI.out _ rfl
  clear hw1 HI
  have hs0 := Pl.sk_len t n 0 (Nat.zero_le _)
  have HA : Hid (Pl.AtV t n (Pl.sk t n 0) []) := rfl
  have HI1 : Hid _ := HI1
  generalize Pl.sk t n 0 = s0 at hs0 HA ⊢
  go_wp2_with fail
  go_loopg [4, 5] n (fun k x4 x5 wr => ∃ (i g c : Nat) (L : List Int), x4 = .slice (some ⟨g, 0, none⟩) L.length c ∧ x5 = .int .i64 i ∧ i ≤ n ∧ n ≤ i + k ∧ Inv w t n wr g c L ∧ Pl.AtV t n i L)
  case atStart => exact ⟨s0, _, _, [], rfl, rfl, hs0, by omega, HI1.out, HA.out⟩
  case round =>
    clear HI1 HA hs0
    obtain ⟨i, g, c, L, rfl, rfl, hin, hik, hI, hA⟩ := hrel
    have HI : Hid _ := hI
    have HA : Hid _ := hA
    have hL := hI.len
    have hcell := fun (h : i < n) => hI.text HB.out HC.out i h
    clear hI hA
    go_upto_region 4 with fail
    go_cut [26] from 9 to 131 (fun s w' => s = .bool (decide (i < n ∧ (t i = 123 ∨ t i = 91))) ∧ w' = wr)
    case first =>
      by_cases hlt : i < n
      · have h0 := hcell hlt
        clear hcell
        by_cases h3 : t i = 123
        · have H6 : Hid (decide (i < n ∧ (t i = 123 ∨ t i = 91)) = true) := decide_eq_true ⟨hlt, .inl h3⟩
          replace h3 : (t i == 123) = true := by simpa using h3
          go_wp2
          go_meet
          case rel => exact ⟨by rw [H6.out], rfl⟩
        · by_cases h9 : t i = 91
          · have H6 : Hid (decide (i < n ∧ (t i = 123 ∨ t i = 91)) = true) := decide_eq_true ⟨hlt, .inr h9⟩
            replace h3 : (t i == 123) = false := by simpa using h3
            replace h9 : (t i == 91) = true := by simpa using h9
            go_wp2
            go_meet
            case rel => exact ⟨by rw [H6.out], rfl⟩
          · have H6 : Hid (decide (i < n ∧ (t i = 123 ∨ t i = 91)) = false) := decide_eq_false (fun h => by have := h.2; omega)
            replace h3 : (t i == 123) = false := by simpa using h3
            replace h9 : (t i == 91) = false := by simpa using h9
            go_wp2
            go_meet
            case rel => exact ⟨by rw [H6.out], rfl⟩
      · have H6 : Hid (decide (i < n ∧ (t i = 123 ∨ t i = 91)) = false) := decide_eq_false (fun h => hlt h.1)
        clear hcell
        go_wp2
        go_meet
        case rel => exact ⟨by rw [H6.out], rfl⟩
    case rest =>
      obtain ⟨rfl, rfl⟩ := hcut
      go_upto_if 26 with fail
      go_cut [4, 5] from 9 to 131 (fun x4 x5 w' => ∃ (j g' c' : Nat) (L' : List Int), x4 = .slice (some ⟨g', 0, none⟩) L'.length c' ∧ x5 = .int .i64 j ∧ i < j ∧ j ≤ n ∧ Inv w t n w' g' c' L' ∧ Pl.AtC t n j L')
      case first =>
        by_cases hcnd : i < n ∧ (t i = 123 ∨ t i = 91)
        · rw [decide_eq_true hcnd]
          have h0 := hcell hcnd.1
          have hlt := hcnd.1
          have HO : Hid (t i = 123 ∨ t i = 91) := hcnd.2
          clear hcell hcnd
          by_cases hfull : L.length = 10000
          · have HF : Hid (Pl.vd t n = false) := Pl.a_full HA.out hlt HO.out hfull
            have hfl : ((L.length : Int) == 10000) = true := by rw [hfull]; rfl
            clear hfull
            go_wp2
            go_ret
            exact ⟨ret_bool (by rw [HF.out]), HI.out.old⟩
          · have hfl : ((L.length : Int) == 10000) = false := by simp; omega
            go_wp2_with (at_builtin; refine wpList_push _ rfl _ _ 22 rfl 5 i0 (.int .u8 0) Try.underlying22 hi hz0 hz1 hz2 rfl w.heap.size g c L (t i) rfl (by exact (HI.out.later ((Below.refl _ _).alloc (Nat.le_refl _) _)).stk) (by have := HI.out.old.size; simp; omega) ⟨wc.heap.size, 0, none⟩ 1 rfl (by simp [Addr.add]) (by omega) ?_)
            intro g' c' w2 hst hbl
            have HI2 : Hid (Inv w t n w2 g' c' (L ++ [t i])) := ⟨hst, by simp; omega, (HI.out.old.alloc HI.out.old.size _).trans hbl⟩
            clear hst hbl
            go_wp2_with fail
            refine (skip_any t b off n cap (i + 1) _ hn (by omega) (by exact HI2.out.text HB.out HC.out)).mono ?_
            rintro e w3 ⟨rfl, rfl⟩
            have hp1 := Pl.sk_ge t n (i + 1)
            have hp2 := Pl.sk_len t n (i + 1) (by omega)
            obtain ⟨p, hp⟩ : ∃ p, p = Pl.sk t n (i + 1) := ⟨_, rfl⟩
            have HP : Hid (p = Pl.sk t n (i + 1)) := hp
            rw [← hp] at hp1 hp2 ⊢
            clear hp
            by_cases hpn : p < n
            · have hcp := HI2.out.text HB.out HC.out p hpn
              have htop := HI2.out.stk.top
              have i1 : (0 : Int) ≤ (p : Int) := by omega
              have i2 : (p : Int) < n := by omega
              have i3 : (0 : Int) ≤ (L.length : Int) := by omega
              by_cases hclo : t p = Pl.clo (t i)
              · have HC2 : Hid (Pl.AtC t n p (L ++ [t i])) := by
                  have := Pl.a_open HA.out hlt HO.out hfull (by rw [← HP.out]; exact fun h => h.2 hclo)
                  rw [← HP.out] at this
                  exact this
                replace hclo : (t p != Pl.clo (t i)) = false := by simpa using hclo
                go_wp2_with fail
                go_quiet ((go_at_call 24; exact Calls.quiet_of_same (closing_any _ _)))
                go_wp2_with fail
                go_meet
                case rel => exact ⟨p, g', c', L ++ [t i], by simp, rfl, by omega, by omega, HI2.out.drewN _, HC2.out⟩
              · have HN : Hid (t p ≠ Pl.clo (t i)) := hclo
                replace hclo : (t p != Pl.clo (t i)) = true := by simpa using hclo
                by_cases h3 : t i = 123
                · have H3 : Hid (t i = 123) := h3
                  replace h3 : (t i == 123) = true := by simpa using h3
                  rcases Pl.mN_or t n p with hm | ⟨m, hm, hm1, hm2⟩
                  · have HM : Hid (Pl.mN t n p = -1) := hm
                    have HF : Hid (Pl.vd t n = false) := Pl.a_openO_no HA.out hlt H3.out hfull (by rw [← HP.out]; exact hpn) (by rw [← HP.out]; exact HN.out) (by rw [← HP.out]; exact hm)
                    clear hm
                    go_wp2_with fail
                    go_quiet ((go_at_call 24; exact Calls.quiet_of_same (closing_any _ _)))
                    go_wp2_with fail
                    refine (memberName_any t b off n cap p _ hn hp2 (by exact (HI2.out.drewN _).text HB.out HC.out)).mono ?_
                    rintro e w4 ⟨rfl, rfl⟩
                    rw [HM.out]
                    go_wp2_with fail
                    go_ret
                    exact ⟨ret_bool (by rw [HF.out]), (HI2.out.drewN _).old⟩
                  · have HM : Hid (Pl.mN t n p = m) := hm
                    have HF : Hid (Pl.AtV t n m (L ++ [t i])) := Pl.a_openO HA.out hlt H3.out hfull (by rw [← HP.out]; exact hpn) (by rw [← HP.out]; exact HN.out) (by rw [← HP.out]; exact hm)
                    clear hm
                    go_wp2_with fail
                    go_quiet ((go_at_call 24; exact Calls.quiet_of_same (closing_any _ _)))
                    go_wp2_with fail
                    refine (memberName_any t b off n cap p _ hn hp2 (by exact (HI2.out.drewN _).text HB.out HC.out)).mono ?_
                    rintro e w4 ⟨rfl, hw4⟩
                    have HI4 : Hid (Inv w t n w4 g' c' (L ++ [t i])) := by
                      have := HI2.out.drewN nq
                      rw [hw4]; exact this
                    clear hw4
                    rw [HM.out]
                    go_wp2_with fail
                    go_roundg (n - m)
                    case measure => omega
                    case rel => exact ⟨m, g', c', L ++ [t i], by simp, rfl, hm2, by omega, HI4.out, HF.out⟩
                · have H3 : Hid (t i = 91) := by
                    rcases HO.out with h | h
                    · exact absurd h h3
                    · exact h
                  have HF : Hid (Pl.AtV t n p (L ++ [t i])) := by
                    have := Pl.a_openA HA.out hlt H3.out hfull (by rw [← HP.out]; exact hpn) (by rw [← HP.out]; exact HN.out)
                    rw [← HP.out] at this
                    exact this
                  replace h3 : (t i == 123) = false := by simpa using h3
                  go_wp2_with fail
                  go_quiet ((go_at_call 24; exact Calls.quiet_of_same (closing_any _ _)))
                  go_wp2_with fail
                  go_roundg (n - p)
                  case measure => omega
                  case rel => exact ⟨p, g', c', L ++ [t i], by simp, rfl, hp2, by omega, HI2.out.drewN _, HF.out⟩
            · have HC2 : Hid (Pl.AtC t n p (L ++ [t i])) := by
                have := Pl.a_open HA.out hlt HO.out hfull (by rw [← HP.out]; exact fun h => hpn h.1)
                rw [← HP.out] at this
                exact this
              have hd : decide ((p : Int) < n) = false := by simp; omega
              go_wp2_with fail
              go_quiet ((go_at_call 24; exact Calls.quiet_of_same (closing_any _ _)))
              go_wp2_with fail
              go_meet
              case rel => exact ⟨p, g', c', L ++ [t i], by simp, rfl, by omega, by omega, HI2.out.drewN _, HC2.out⟩
        · rw [decide_eq_false hcnd]
          have HN : Hid (¬ (i < n ∧ (t i = 123 ∨ t i = 91))) := hcnd
          clear hcell hcnd
          rcases Pl.sc_or t n i with hm | ⟨m, hm, hm1, hm2⟩
          · have HM : Hid (Pl.sc t n i = -1) := hm
            have HF : Hid (Pl.vd t n = false) := Pl.a_scal_no HA.out HN.out hm
            clear hm
            go_wp2_with fail
            refine (scalarEnd_any t HT.out b off n cap i _ hn hcap (by have := HB.out; have := HI.out.old.size; omega) (by exact HI.out.text HB.out HC.out)).mono ?_
            rintro e w4 ⟨rfl, hbl⟩
            have HI4 : Hid (Inv w t n w4 g c L) := HI.out.later hbl
            clear hbl
            rw [HM.out]
            go_wp2_with fail
            go_ret
            exact ⟨ret_bool (by rw [HF.out]), HI4.out.old⟩
          · have HM : Hid (Pl.sc t n i = m) := hm
            have HF : Hid (Pl.AtC t n m L) := Pl.a_scal HA.out HN.out hm
            clear hm
            go_wp2_with fail
            refine (scalarEnd_any t HT.out b off n cap i _ hn hcap (by have := HB.out; have := HI.out.old.size; omega) (by exact HI.out.text HB.out HC.out)).mono ?_
            rintro e w4 ⟨rfl, hbl⟩
            have HI4 : Hid (Inv w t n w4 g c L) := HI.out.later hbl
            clear hbl
            rw [HM.out]
            go_wp2_with fail
            go_meet
            case rel => exact ⟨m, g, c, L, rfl, rfl, hm1, hm2, HI4.out, HF.out⟩
      case rest =>
        clear hcell HI HA
        obtain ⟨j, g', c', L', rfl, rfl, hij, hjn, hI, hA⟩ := hcut
        have HI : Hid _ := hI
        have HA : Hid _ := hA
        clear hI hA hL
        go_wp2_with fail
        go_loopg [4, 5] n (fun k x4 x5 wr => ∃ (j g c : Nat) (L : List Int), x4 = .slice (some ⟨g, 0, none⟩) L.length c ∧ x5 = .int .i64 j ∧ i < j ∧ j ≤ n ∧ n ≤ j + k ∧ Inv w t n wr g c L ∧ Pl.AtC t n j L)
        case atStart => exact ⟨j, g', c', L', rfl, rfl, hij, hjn, by omega, HI.out, HA.out⟩
        case round =>
          clear HI HA hij hjn
          obtain ⟨j, g, c, L, rfl, rfl, hij, hjn, hjk, hI, hA⟩ := hrel
          have HI : Hid _ := hI
          have HA : Hid _ := hA
          clear hI hA
          rcases List.eq_nil_or_concat L with rfl | ⟨L2, o, rfl⟩
          · have HF : Hid _ := Pl.c_nil HA.out
            simp only [List.length_nil]
            go_wp2_with fail
            refine (skip_any t b off n cap j _ hn hjn (by exact HI.out.text HB.out HC.out)).mono ?_
            rintro e w5 ⟨rfl, rfl⟩
            go_wp2_with fail
            go_ret
            exact ⟨ret_bool (by rw [HF.out, Bool.eq_iff_iff]; simp; omega), HI.out.old⟩
          · have hlen : (L2 ++ [o]).length = L2.length + 1 := by simp
            rw [List.concat_eq_append] at HI HA ⊢
            rw [hlen]
            have hL2 := HI.out.len
            rw [hlen] at hL2
            clear hlen
            have hl0 : ((L2.length : Int) + 1 == 0) = false := by simp; omega
            go_wp2_with fail
            refine (skip_any t b off n cap j _ hn hjn (by exact HI.out.text HB.out HC.out)).mono ?_
            rintro e w5 ⟨rfl, rfl⟩
            have hp1 := Pl.sk_ge t n j
            have hp2 := Pl.sk_len t n j hjn
            obtain ⟨p, hp⟩ : ∃ p, p = Pl.sk t n j := ⟨_, rfl⟩
            have HP : Hid (p = Pl.sk t n j) := hp
            rw [← hp] at hp1 hp2 ⊢
            clear hp
            by_cases hpn : p < n
            · have hcp := HI.out.text HB.out HC.out p hpn
              have htop := HI.out.stk.top
              have i1 : (0 : Int) ≤ (p : Int) := by omega
              have i2 : (p : Int) < n := by omega
              have i3 : (0 : Int) ≤ (L2.length : Int) := by omega
              by_cases hclo : t p = Pl.clo o
              · have HC2 : Hid (Pl.AtC t n (p + 1) L2) := by
                  have := Pl.c_shut HA.out (by rw [← HP.out]; exact hpn) (by rw [← HP.out]; exact hclo)
                  rw [← HP.out] at this
                  exact this
                replace hclo : (t p == Pl.clo o) = true := by simpa using hclo
                have hcc : (L2.length : Int) ≤ (c : Int) := by have := HI.out.stk.le; simp at this; omega
                go_wp2_with fail
                go_quiet ((go_at_call 24; exact Calls.quiet_of_same (closing_any _ _)))
                go_wp2_with fail
                go_roundg (n - (p + 1))
                case measure => omega
                case rel => exact ⟨p + 1, g, c, L2, by simp, by go_num, by omega, by omega, by omega, (HI.out.drewN _).pop, HC2.out⟩
              · have HN : Hid (t p ≠ Pl.clo o) := hclo
                replace hclo : (t p == Pl.clo o) = false := by simpa using hclo
                by_cases h44 : t p = 44
                · have H44 : Hid (t p = 44) := h44
                  replace h44 : (t p != 44) = false := by simpa using h44
                  have hq1 := Pl.sk_ge t n (p + 1)
                  have hq2 := Pl.sk_len t n (p + 1) (by omega)
                  obtain ⟨q, hq⟩ : ∃ q, q = Pl.sk t n (p + 1) := ⟨_, rfl⟩
                  have HQ : Hid (q = Pl.sk t n (p + 1)) := hq
                  have HQ' : Hid (q = Pl.sk t n (Pl.sk t n j + 1)) := by
                    have := HQ.out
                    rw [HP.out] at this
                    exact this
                  rw [← hq] at hq1 hq2
                  clear hq
                  by_cases h3 : o = 123
                  · have H3 : Hid (o = 123) := h3
                    replace h3 : (o == 123) = true := by simpa using h3
                    rcases Pl.mN_or t n q with hm | ⟨m, hm, hm1, hm2⟩
                    · have HM : Hid (Pl.mN t n q = -1) := hm
                      have HF : Hid (Pl.vd t n = false) := Pl.c_obj_no HA.out (by rw [← HP.out]; exact hpn) (by rw [← HP.out]; exact HN.out) (by rw [← HP.out]; exact H44.out) H3.out (by rw [← HQ'.out]; exact hm)
                      clear hm
                      go_wp2_with fail
                      go_quiet ((go_at_call 24; exact Calls.quiet_of_same (closing_any _ _)))
                      go_wp2_with fail
                      refine (skip_any t b off n cap (p + 1) _ hn (by omega) (by exact (HI.out.drewN _).text HB.out HC.out)).mono ?_
                      rintro e w6 ⟨rfl, hw6⟩
                      have HI4 : Hid (Inv w t n w6 g c (L2 ++ [o])) := by
                        have := HI.out.drewN nq
                        rw [hw6]; exact this
                      clear hw6
                      rw [← HQ.out]
                      have htop := HI4.out.stk.top
                      go_wp2_with fail
                      refine (memberName_any t b off n cap q _ hn hq2 (by exact HI4.out.text HB.out HC.out)).mono ?_
                      rintro e w7 ⟨rfl, rfl⟩
                      rw [HM.out]
                      go_wp2_with fail
                      go_ret
                      exact ⟨ret_bool (by rw [HF.out]), HI4.out.old⟩
                    · have HM : Hid (Pl.mN t n q = m) := hm
                      have HF : Hid (Pl.AtV t n m (L2 ++ [o])) := Pl.c_obj HA.out (by rw [← HP.out]; exact hpn) (by rw [← HP.out]; exact HN.out) (by rw [← HP.out]; exact H44.out) H3.out (by rw [← HQ'.out]; exact hm)
                      clear hm
                      go_wp2_with fail
                      go_quiet ((go_at_call 24; exact Calls.quiet_of_same (closing_any _ _)))
                      go_wp2_with fail
                      refine (skip_any t b off n cap (p + 1) _ hn (by omega) (by exact (HI.out.drewN _).text HB.out HC.out)).mono ?_
                      rintro e w6 ⟨rfl, hw6⟩
                      have HI4 : Hid (Inv w t n w6 g c (L2 ++ [o])) := by
                        have := HI.out.drewN nq
                        rw [hw6]; exact this
                      clear hw6
                      rw [← HQ.out]
                      have htop := HI4.out.stk.top
                      go_wp2_with fail
                      refine (memberName_any t b off n cap q _ hn hq2 (by exact HI4.out.text HB.out HC.out)).mono ?_
                      rintro e w7 ⟨rfl, rfl⟩
                      rw [HM.out]
                      go_wp2_with fail
                      go_roundg (n - m)
                      case measure => omega
                      case rel => exact ⟨m, g, c, L2 ++ [o], by simp, rfl, hm2, by omega, HI4.out, HF.out⟩
                  · have HF : Hid (Pl.AtV t n q (L2 ++ [o])) := by
                      have := Pl.c_arr HA.out (by rw [← HP.out]; exact hpn) (by rw [← HP.out]; exact HN.out) (by rw [← HP.out]; exact H44.out) h3
                      rw [← HQ'.out] at this
                      exact this
                    replace h3 : (o == 123) = false := by simpa using h3
                    go_wp2_with fail
                    go_quiet ((go_at_call 24; exact Calls.quiet_of_same (closing_any _ _)))
                    go_wp2_with fail
                    refine (skip_any t b off n cap (p + 1) _ hn (by omega) (by exact (HI.out.drewN _).text HB.out HC.out)).mono ?_
                    rintro e w6 ⟨rfl, hw6⟩
                    have HI4 : Hid (Inv w t n w6 g c (L2 ++ [o])) := by
                      have := HI.out.drewN nq
                      rw [hw6]; exact this
                    clear hw6
                    rw [← HQ.out]
                    have htop := HI4.out.stk.top
                    go_wp2_with fail
                    go_roundg (n - q)
                    case measure => omega
                    case rel => exact ⟨q, g, c, L2 ++ [o], by simp, rfl, hq2, by omega, HI4.out, HF.out⟩
                · have HF : Hid (Pl.vd t n = false) := Pl.c_bad HA.out (by rw [← HP.out]; exact hpn) (by rw [← HP.out]; exact HN.out) (by rw [← HP.out]; exact h44)
                  replace h44 : (t p != 44) = true := by simpa using h44
                  go_wp2_with fail
                  go_quiet ((go_at_call 24; exact Calls.quiet_of_same (closing_any _ _)))
                  go_wp2_with fail
                  go_ret
                  exact ⟨ret_bool (by rw [HF.out]), (HI.out.drewN _).old⟩
            · have HF : Hid (Pl.vd t n = false) := Pl.c_end HA.out (by rw [← HP.out]; omega)
              go_wp2_with fail
              go_ret
              exact ⟨ret_bool (by rw [HF.out]), HI.out.old⟩
end Go.Proofs.Qxb6603099a

import Derived.Test.Qxb6603099aWObj
import Derived.Test.Qxb6603099aWDesc
namespace Go.Proofs.Qxb6603099a
open Go.ChangeShapes Go.WideShapes Go.ChangeAt Go.RowKit
set_option linter.unusedVariables false

/-- Which of the seven a byte is, as the switch tests it. -/
theorem val_cases (c : Int) : ((c == 123) = true ∧ Hid (c = 123)) ∨ ((c == 123) = false ∧ (c == 91) = true ∧ Hid (c = 91)) ∨
    ((c == 123) = false ∧ (c == 91) = false ∧ Hid (¬ (c = 123 ∨ c = 91))) := by
  by_cases h1 : c = 123
  · exact .inl ⟨by simpa using h1, h1⟩
  · by_cases h2 : c = 91
    · exact .inr (.inl ⟨by simpa using h1, by simpa using h2, h2⟩)
    · exact .inr (.inr ⟨by simpa using h1, by simpa using h2, fun h => by omega⟩)

theorem val_end (t : Nat → Int) (b off n cap : Nat) (p d : Nat) (w : World) (hn : n ≤ 1048576) (hp : n = p) (hd : d ≤ 10000) :
    Calls Try.prog 27 #[.slice (some ⟨b, off, none⟩) n cap, .int .i64 p, .int .i64 d] w fun e w' => e = .returned (.int .i64 (Pl.rd t n 0 p d)) ∧ Below w.heap.size w w' := by
  have HR : Hid (Pl.rd t n 0 p d = -1) := Pl.rd_end (by omega)
  subst hp
  go_enter Try.func27, Try.ntmps27
  go_wp2_with fail
  go_ret
  exact ⟨ret_int (by rw [HR.out]), Below.refl _ _⟩

set_option maxRecDepth 20000 in
set_option maxHeartbeats 400000 in
theorem val_step (t : Nat → Int) (ht : ∀ k, 0 ≤ t k ∧ t k ≤ 255) (b off n cap k : Nat) (hn : n ≤ 1048576) (IH : ValC t b off n cap k) : ValC t b off n cap (k + 1) := by
  intro p d w hk hp hd hT
  by_cases hpn : n = p
  · exact val_end t b off n cap p d w hn hpn hd
  · have hlt : p < n := by omega
    have HI : Hid (ValC t b off n cap k) := IH
    have HT : Hid (Txt t b off n w) := hT
    have HTT : Hid (∀ k, 0 ≤ t k ∧ t k ≤ 255) := ht
    have h0 := hT.cells p hlt
    have hb : b < w.heap.size := by have := hT.live; omega
    clear IH hT ht
    rcases val_cases (t p) with ⟨h1, H1⟩ | ⟨h1, h2, H1⟩ | ⟨h1, h2, H1⟩
    · have HR : Hid (Pl.rd t n 0 p d = objR t n p (d + 1)) := Pl.rd_O hlt H1.out
      go_enter Try.func27, Try.ntmps27
      go_wp2_with fail
      refine (obj_any t b off n cap k hn HTT.out HI.out p (d + 1) _ hk hlt (by omega) HT.out).mono ?_
      rintro e w1 ⟨rfl, hb1⟩
      have HB : Hid _ := hb1
      clear hb1
      go_wp2_with fail
      go_ret
      exact ⟨ret_int (by rw [HR.out]), HB.out⟩
    · have HR : Hid (Pl.rd t n 0 p d = arrR t n p (d + 1)) := Pl.rd_A hlt H1.out
      go_enter Try.func27, Try.ntmps27
      go_wp2_with fail
      refine (arr_any t b off n cap k hn HI.out p (d + 1) _ hk hlt (by omega) HT.out).mono ?_
      rintro e w1 ⟨rfl, hb1⟩
      have HB : Hid _ := hb1
      clear hb1
      go_wp2_with fail
      go_ret
      exact ⟨ret_int (by rw [HR.out]), HB.out⟩
    · have HR : Hid (Pl.rd t n 0 p d = Pl.sc t n p) := Pl.rd_S (fun h => H1.out h.2)
      rcases sc_cases (t p) with ⟨h3, h5⟩ | ⟨h3, h4, h5⟩ | ⟨h3, h4, h6, h5⟩ | ⟨h3, h4, h6, h7, h5⟩ | ⟨h3, h4, h6, h7, h5⟩
      · have HZ : Hid _ := sc_str hlt h5.out
        go_enter Try.func27, Try.ntmps27
        go_wp2_with fail
        refine (strM_any t HTT.out b off n cap p _ hn hlt (by exact HT.out.cells)).mono ?_
        rintro e w1 ⟨rfl, rfl⟩
        go_wp2_with fail
        go_ret
        exact ⟨ret_int (by rw [HR.out, HZ.out]), Below.refl _ _⟩
      · have HZ : Hid _ := sc_true hlt h5.out
        go_enter Try.func27, Try.ntmps27
        go_wp2_with fail
        refine (zzWord_any t sTrue yTrue rfl is_true b off n cap p w hn hlt (by decide) hb HT.out.cells).mono ?_
        rintro e w1 ⟨rfl, hb1⟩
        have HB : Hid _ := hb1
        clear hb1
        go_wp2_with fail
        go_ret
        exact ⟨ret_int (by rw [HR.out, HZ.out]), HB.out⟩
      · have HZ : Hid _ := sc_false hlt h5.out
        go_enter Try.func27, Try.ntmps27
        go_wp2_with fail
        refine (zzWord_any t sFalse yFalse rfl is_false b off n cap p w hn hlt (by decide) hb HT.out.cells).mono ?_
        rintro e w1 ⟨rfl, hb1⟩
        have HB : Hid _ := hb1
        clear hb1
        go_wp2_with fail
        go_ret
        exact ⟨ret_int (by rw [HR.out, HZ.out]), HB.out⟩
      · have HZ : Hid _ := sc_null hlt h5.out
        go_enter Try.func27, Try.ntmps27
        go_wp2_with fail
        refine (zzWord_any t sNull yNull rfl is_null b off n cap p w hn hlt (by decide) hb HT.out.cells).mono ?_
        rintro e w1 ⟨rfl, hb1⟩
        have HB : Hid _ := hb1
        clear hb1
        go_wp2_with fail
        go_ret
        exact ⟨ret_int (by rw [HR.out, HZ.out]), HB.out⟩
      · have HZ : Hid _ := sc_num hlt h5.out
        go_enter Try.func27, Try.ntmps27
        go_wp2_with fail
        refine (numM_any t b off n cap p _ hn hlt (by exact HT.out.cells)).mono ?_
        rintro e w1 ⟨rfl, rfl⟩
        go_wp2_with fail
        go_ret
        exact ⟨ret_int (by rw [HR.out, HZ.out]), Below.refl _ _⟩

theorem val_any (t : Nat → Int) (ht : ∀ k, 0 ≤ t k ∧ t k ≤ 255) (b off n cap : Nat) (hn : n ≤ 1048576) : ∀ k, ValC t b off n cap k
  | 0 => fun p d w hk hp hd _ => val_end t b off n cap p d w hn (by omega) hd
  | k + 1 => val_step t ht b off n cap k hn (val_any t ht b off n cap hn k)

theorem validM_any (t : Nat → Int) (ht : ∀ k, 0 ≤ t k ∧ t k ≤ 255) (b off n cap : Nat) (w : World) (hn : n ≤ 1048576) (hT : Txt t b off n w) :
    Calls Try.prog 12 #[.slice (some ⟨b, off, none⟩) n cap] w fun e w' => e = .returned (.bool (Pl.vm t n)) ∧ Below w.heap.size w w' := by
  have HV : Hid (ValC t b off n cap n) := val_any t ht b off n cap hn n
  have HT : Hid (Txt t b off n w) := hT
  have hs := Pl.sk_len t n 0 (Nat.zero_le _)
  have HM : Hid (Pl.vm t n = if Pl.rd t n 0 (Pl.sk t n 0) 0 < 0 then false else Pl.sk t n (Pl.rd t n 0 (Pl.sk t n 0) 0).toNat == n) := rfl
  clear hT ht
  rcases Pl.rd_or t n 0 (Pl.sk t n 0) 0 with hv | ⟨v, hv, hv1, hv2⟩
  · have HR : Hid _ := hv
    clear hv
    go_enter Try.func12, Try.ntmps12
    go_wp2_with fail
    refine (zzSkip_any t b off n cap 0 _ hn (Nat.zero_le _) (by exact HT.out.cells)).mono ?_
    rintro e w1 ⟨rfl, rfl⟩
    go_wp2_with fail
    refine (HV.out (Pl.sk t n 0) 0 _ (by omega) hs (by omega) HT.out).mono ?_
    rintro e w2 ⟨rfl, hb2⟩
    have HB : Hid _ := hb2
    clear hb2
    rw [HR.out]
    go_wp2_with fail
    go_ret
    exact ⟨ret_bool (by rw [HM.out, HR.out]; rfl), HB.out⟩
  · have HR : Hid _ := hv
    clear hv
    go_enter Try.func12, Try.ntmps12
    go_wp2_with fail
    refine (zzSkip_any t b off n cap 0 _ hn (Nat.zero_le _) (by exact HT.out.cells)).mono ?_
    rintro e w1 ⟨rfl, rfl⟩
    go_wp2_with fail
    refine (HV.out (Pl.sk t n 0) 0 _ (by omega) hs (by omega) HT.out).mono ?_
    rintro e w2 ⟨rfl, hb2⟩
    have HB : Hid _ := hb2
    have HT2 : Hid _ := HT.out.later hb2
    clear hb2
    rw [HR.out]
    go_wp2_with fail
    refine (zzSkip_any t b off n cap v _ hn hv2 (by exact HT2.out.cells)).mono ?_
    rintro e w3 ⟨rfl, rfl⟩
    go_wp2_with fail
    go_ret
    exact ⟨ret_bool (by rw [HM.out, HR.out, if_neg (by omega), Bool.eq_iff_iff]; simp; omega), HB.out⟩
end Go.Proofs.Qxb6603099a

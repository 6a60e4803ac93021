import Derived.Test.Qxb6603099aWDesc
import Derived.Deep.CutRange
import Derived.Deep.CutBlock
namespace Go.Proofs.Qxb6603099a
open Go.ChangeShapes Go.WideShapes Go.ChangeAt Go.RowKit
set_option linter.unusedVariables false

set_option maxRecDepth 20000 in
set_option maxHeartbeats 2000000 in
theorem obj_any (t : Nat → Int) (b off n cap k : Nat) (hn : n ≤ 1048576) (ht0 : ∀ k, 0 ≤ t k ∧ t k ≤ 255) (IH : ValC t b off n cap k) (p d : Nat) (w : World) (hk : n ≤ p + (k + 1)) (hp : p < n) (hd : d ≤ 10001) (hT : Txt t b off n w) :
    Calls Try.prog 36 #[.slice (some ⟨b, off, none⟩) n cap, .int .i64 p, .int .i64 d] w fun e w' => e = .returned (.int .i64 (objR t n p d)) ∧ Below w.heap.size w w' := by
  have HTT : Hid (∀ k, 0 ≤ t k ∧ t k ≤ 255) := ht0
  have HI : Hid (ValC t b off n cap k) := IH
  have HT : Hid (Txt t b off n w) := hT
  clear IH hT ht0
  by_cases hdeep : 10000 < d
  · have HR : Hid (objR t n p d = -1) := by
      have : objR t n p d = -1 := by unfold objR; rw [if_pos hdeep]
      exact this
    go_enter Try.func36, Try.ntmps36
    go_wp2_with fail
    go_ret
    exact ⟨ret_int (by rw [HR.out]), Below.refl _ _⟩
  · have hq1 := Pl.sk_ge t n (p + 1)
    have hq2 := Pl.sk_len t n (p + 1) (by omega)
    have HQ0 : Hid (objR t n p d = if Pl.sk t n (p + 1) < n ∧ t (Pl.sk t n (p + 1)) = 125 then (Pl.sk t n (p + 1) : Int) + 1 else Pl.rd t n 1 (Pl.sk t n (p + 1)) d) := by
      have : objR t n p d = if Pl.sk t n (p + 1) < n ∧ t (Pl.sk t n (p + 1)) = 125 then (Pl.sk t n (p + 1) : Int) + 1 else Pl.rd t n 1 (Pl.sk t n (p + 1)) d := by unfold objR; rw [if_neg hdeep]
      exact this
    obtain ⟨q, hq⟩ : ∃ q, q = Pl.sk t n (p + 1) := ⟨_, rfl⟩
    have HQ : Hid (q = Pl.sk t n (p + 1)) := hq
    have HQ1 : Hid (objR t n p d = if q < n ∧ t q = 125 then (q : Int) + 1 else Pl.rd t n 1 q d) := by
      have := HQ0.out
      rw [← HQ.out] at this
      exact this
    rw [← hq] at hq1 hq2
    clear hq HQ0
    by_cases hend : q < n ∧ t q = 125
    · have HR : Hid (objR t n p d = (q : Int) + 1) := by
        have := HQ1.out
        rw [if_pos hend] at this
        exact this
      have hcq := HT.out.cells q hend.1
      have hqn := hend.1
      have h125 : (t q == 125) = true := by simpa using hend.2
      clear hend
      go_enter Try.func36, Try.ntmps36
      go_wp2_with fail
      refine (zzSkip_any t b off n cap (p + 1) _ hn (by omega) (by exact HT.out.cells)).mono ?_
      rintro e w1 ⟨rfl, rfl⟩
      rw [← HQ.out]
      go_wp2_with fail
      go_ret
      exact ⟨ret_int (by rw [HR.out]), Below.refl _ _⟩
    · have HR : Hid (objR t n p d = Pl.rd t n 1 q d) := by
        have := HQ1.out
        rw [if_neg hend] at this
        exact this
      have hcq := fun (h : q < n) => HT.out.cells q h
      have h125 : q < n → (t q == 125) = false := fun h => by
        have : t q ≠ 125 := fun h' => hend ⟨h, h'⟩
        simpa using this
      clear hend HQ1
      go_enter Try.func36, Try.ntmps36
      go_wp2_with fail
      refine (zzSkip_any t b off n cap (p + 1) _ hn (by omega) (by exact HT.out.cells)).mono ?_
      rintro e w1 ⟨rfl, rfl⟩
      rw [← HQ.out]
      go_upto_region 4 with fail
      go_cut [23] from 7 (fun s w' => s = .bool false ∧ w' = w1)
      case first =>
        by_cases hqn : q < n
        · replace hcq := hcq hqn
          replace h125 := h125 hqn
          go_wp2
          go_meet
          case rel => exact ⟨rfl, rfl⟩
        · clear hcq h125
          go_wp2
          go_meet
          case rel => exact ⟨rfl, rfl⟩
      case rest =>
        obtain ⟨rfl, rfl⟩ := hcut
        clear hcq h125
        go_wp2_with fail
        go_loopg [1] n (fun x x1 wr => ∃ r : Nat, x1 = .int .i64 r ∧ p < r ∧ r ≤ n ∧ n ≤ r + x ∧ Below wc.heap.size wc wr ∧ objR t n p d = Pl.rd t n 1 r d)
        case atStart => exact ⟨q, rfl, by omega, by omega, by omega, Below.refl _ _, HR.out⟩
        case round =>
          obtain ⟨r, rfl, hpr, hrn, hrk, hbl, hR⟩ := hrel
          have HB : Hid (Below wc.heap.size wc wr) := hbl
          have HRR : Hid _ := hR
          clear hbl hR HR
          by_cases hrn' : r < n
          · have hcr := (HT.out.later HB.out).cells r hrn'
            by_cases hq4 : t r = 34
            · have H34 : Hid (¬ (n ≤ r ∨ t r ≠ 34)) := fun h => by omega
              replace hq4 : (t r != 34) = false := by simpa using hq4
              rcases Pl.vS_or t n (r + 1) with he | ⟨x, he, hx1, hx2⟩
              · have HE : Hid _ := he
                have HMN : Hid (Pl.mN t n r = -1) := by
                  have : Pl.mN t n r = -1 := by unfold Pl.mN; rw [if_neg H34.out, if_pos (by omega)]
                  exact this
                clear he
                go_wp2_with fail
                refine (strM_any t HTT.out b off n cap r _ hn hrn' (by exact (HT.out.later HB.out).cells)).mono ?_
                rintro e w5 ⟨rfl, hw5⟩
                have HT5 : Hid (Txt t b off n w5) := by
                  have := HT.out.later HB.out
                  rw [hw5]; exact this
                have HB5 : Hid (Below wc.heap.size wc w5) := by
                  have := HB.out
                  rw [hw5]; exact this
                clear hw5
                rw [HE.out]
                go_wp2_with fail
                go_ret
                exact ⟨ret_int (by rw [HRR.out, obj_m HMN.out]), HB5.out⟩
              · have HE : Hid (Pl.vS t n (r + 1) = x) := he
                have HMN : Hid (Pl.mN t n r = if n ≤ Pl.sk t n x ∨ t (Pl.sk t n x) ≠ 58 then -1 else (Pl.sk t n (Pl.sk t n x + 1) : Int)) := by
                  have : Pl.mN t n r = if n ≤ Pl.sk t n x ∨ t (Pl.sk t n x) ≠ 58 then -1 else (Pl.sk t n (Pl.sk t n x + 1) : Int) := by
                    unfold Pl.mN; rw [if_neg H34.out, he, if_neg (by omega)]; rfl
                  exact this
                clear he
                have hy1 := Pl.sk_ge t n x
                have hy2 := Pl.sk_len t n x hx2
                obtain ⟨y, hy⟩ : ∃ y, y = Pl.sk t n x := ⟨_, rfl⟩
                have HY : Hid (y = Pl.sk t n x) := hy
                have HMN2 : Hid (Pl.mN t n r = if n ≤ y ∨ t y ≠ 58 then -1 else (Pl.sk t n (y + 1) : Int)) := by
                  have := HMN.out
                  rw [← HY.out] at this
                  exact this
                rw [← hy] at hy1 hy2
                clear hy HMN
                by_cases hyn : y < n
                · by_cases h58 : t y = 58
                  · have hm1 := Pl.sk_ge t n (y + 1)
                    have hm2 := Pl.sk_len t n (y + 1) (by omega)
                    obtain ⟨m, hm⟩ : ∃ m, m = Pl.sk t n (y + 1) := ⟨_, rfl⟩
                    have HM : Hid (m = Pl.sk t n (y + 1)) := hm
                    have HMN3 : Hid (Pl.mN t n r = m) := by
                      have := HMN2.out
                      rw [if_neg (by omega), ← HM.out] at this
                      exact this
                    rw [← hm] at hm1 hm2
                    clear hm HMN2
                    replace h58 : (t y != 58) = false := by simpa using h58
                    rcases Pl.rd_or t n 0 m d with hv | ⟨v, hv, hv1, hv2⟩
                    · have HV : Hid _ := hv
                      have HG : Hid _ := obj_no HMN3.out hv
                      clear hv
                      go_wp2_with fail
                      refine (strM_any t HTT.out b off n cap r _ hn hrn' (by exact (HT.out.later HB.out).cells)).mono ?_
                      rintro e w5 ⟨rfl, hw5⟩
                      have HT5 : Hid (Txt t b off n w5) := by
                        have := HT.out.later HB.out
                        rw [hw5]; exact this
                      have HB5 : Hid (Below wc.heap.size wc w5) := by
                        have := HB.out
                        rw [hw5]; exact this
                      clear hw5
                      rw [HE.out]
                      go_wp2_with fail
                      refine (zzSkip_any t b off n cap x _ hn hx2 (by exact HT5.out.cells)).mono ?_
                      rintro e w6 ⟨rfl, hw6⟩
                      have HT6 : Hid (Txt t b off n w6) := by
                        have := HT5.out
                        rw [hw6]; exact this
                      have HB6 : Hid (Below wc.heap.size wc w6) := by
                        have := HB5.out
                        rw [hw6]; exact this
                      clear hw6 HT5 HB5
                      rw [← HY.out]
                      have hcy := HT6.out.cells y hyn
                      go_wp2_with fail
                      refine (zzSkip_any t b off n cap (y + 1) _ hn (by omega) (by exact HT6.out.cells)).mono ?_
                      rintro e w7 ⟨rfl, hw7⟩
                      have HT7 : Hid (Txt t b off n w7) := by
                        have := HT6.out
                        rw [hw7]; exact this
                      have HB7 : Hid (Below wc.heap.size wc w7) := by
                        have := HB6.out
                        rw [hw7]; exact this
                      clear hw7 HT6 HB6 hcy
                      rw [← HM.out]
                      go_wp2_with fail
                      refine (HI.out m d w7 (by omega) hm2 (by omega) HT7.out).mono ?_
                      rintro e w8 ⟨rfl, hb8⟩
                      have HT8 : Hid (Txt t b off n w8) := HT7.out.later hb8
                      have HB8 : Hid (Below wc.heap.size wc w8) := HB7.out.trans (hb8.mono HB7.out.size)
                      clear hb8 HT7 HB7
                      rw [HV.out]
                      go_wp2_with fail
                      go_ret
                      exact ⟨ret_int (by rw [HRR.out, HG.out]), HB8.out⟩
                    · have HV : Hid (Pl.rd t n 0 m d = v) := hv
                      have HG : Hid _ := obj_go HMN3.out hv
                      clear hv
                      have hs1 := Pl.sk_ge t n v
                      have hs2 := Pl.sk_len t n v hv2
                      obtain ⟨s, hs⟩ : ∃ s, s = Pl.sk t n v := ⟨_, rfl⟩
                      have HS : Hid (s = Pl.sk t n v) := hs
                      have HG2 : Hid (objR t n p d = if n ≤ s then -1 else if t s = 125 then (s : Int) + 1 else if t s ≠ 44 then -1 else Pl.rd t n 1 (Pl.sk t n (s + 1)) d) := by
                        have := HRR.out
                        rw [HG.out, ← HS.out] at this
                        exact this
                      rw [← hs] at hs1 hs2
                      clear hs HG
                      by_cases hsn : s < n
                      · by_cases h9 : t s = 125
                        · have H9 : Hid (t s = 125) := h9
                          replace h9 : (t s == 125) = true := by simpa using h9
                          go_wp2_with fail
                          refine (strM_any t HTT.out b off n cap r _ hn hrn' (by exact (HT.out.later HB.out).cells)).mono ?_
                          rintro e w5 ⟨rfl, hw5⟩
                          have HT5 : Hid (Txt t b off n w5) := by
                            have := HT.out.later HB.out
                            rw [hw5]; exact this
                          have HB5 : Hid (Below wc.heap.size wc w5) := by
                            have := HB.out
                            rw [hw5]; exact this
                          clear hw5
                          rw [HE.out]
                          go_wp2_with fail
                          refine (zzSkip_any t b off n cap x _ hn hx2 (by exact HT5.out.cells)).mono ?_
                          rintro e w6 ⟨rfl, hw6⟩
                          have HT6 : Hid (Txt t b off n w6) := by
                            have := HT5.out
                            rw [hw6]; exact this
                          have HB6 : Hid (Below wc.heap.size wc w6) := by
                            have := HB5.out
                            rw [hw6]; exact this
                          clear hw6 HT5 HB5
                          rw [← HY.out]
                          have hcy := HT6.out.cells y hyn
                          go_wp2_with fail
                          refine (zzSkip_any t b off n cap (y + 1) _ hn (by omega) (by exact HT6.out.cells)).mono ?_
                          rintro e w7 ⟨rfl, hw7⟩
                          have HT7 : Hid (Txt t b off n w7) := by
                            have := HT6.out
                            rw [hw7]; exact this
                          have HB7 : Hid (Below wc.heap.size wc w7) := by
                            have := HB6.out
                            rw [hw7]; exact this
                          clear hw7 HT6 HB6 hcy
                          rw [← HM.out]
                          go_wp2_with fail
                          refine (HI.out m d w7 (by omega) hm2 (by omega) HT7.out).mono ?_
                          rintro e w8 ⟨rfl, hb8⟩
                          have HT8 : Hid (Txt t b off n w8) := HT7.out.later hb8
                          have HB8 : Hid (Below wc.heap.size wc w8) := HB7.out.trans (hb8.mono HB7.out.size)
                          clear hb8 HT7 HB7
                          rw [HV.out]
                          go_wp2_with fail
                          refine (zzSkip_any t b off n cap v _ hn hv2 (by exact HT8.out.cells)).mono ?_
                          rintro e w9 ⟨rfl, hw9⟩
                          have HT9 : Hid (Txt t b off n w9) := by
                            have := HT8.out
                            rw [hw9]; exact this
                          have HB9 : Hid (Below wc.heap.size wc w9) := by
                            have := HB8.out
                            rw [hw9]; exact this
                          clear hw9 HT8 HB8
                          rw [← HS.out]
                          have hcs := HT9.out.cells s hsn
                          go_wp2_with fail
                          go_ret
                          exact ⟨ret_int (by rw [HG2.out, if_neg (by omega), if_pos H9.out]), HB9.out⟩
                        · have H9 : Hid (¬ t s = 125) := h9
                          replace h9 : (t s == 125) = false := by simpa using h9
                          by_cases h4 : t s = 44
                          · have H4 : Hid (¬ t s ≠ 44) := fun h => h h4
                            replace h4 : (t s != 44) = false := by simpa using h4
                            have hu1 := Pl.sk_ge t n (s + 1)
                            have hu2 := Pl.sk_len t n (s + 1) (by omega)
                            go_wp2_with fail
                            refine (strM_any t HTT.out b off n cap r _ hn hrn' (by exact (HT.out.later HB.out).cells)).mono ?_
                            rintro e w5 ⟨rfl, hw5⟩
                            have HT5 : Hid (Txt t b off n w5) := by
                              have := HT.out.later HB.out
                              rw [hw5]; exact this
                            have HB5 : Hid (Below wc.heap.size wc w5) := by
                              have := HB.out
                              rw [hw5]; exact this
                            clear hw5
                            rw [HE.out]
                            go_wp2_with fail
                            refine (zzSkip_any t b off n cap x _ hn hx2 (by exact HT5.out.cells)).mono ?_
                            rintro e w6 ⟨rfl, hw6⟩
                            have HT6 : Hid (Txt t b off n w6) := by
                              have := HT5.out
                              rw [hw6]; exact this
                            have HB6 : Hid (Below wc.heap.size wc w6) := by
                              have := HB5.out
                              rw [hw6]; exact this
                            clear hw6 HT5 HB5
                            rw [← HY.out]
                            have hcy := HT6.out.cells y hyn
                            go_wp2_with fail
                            refine (zzSkip_any t b off n cap (y + 1) _ hn (by omega) (by exact HT6.out.cells)).mono ?_
                            rintro e w7 ⟨rfl, hw7⟩
                            have HT7 : Hid (Txt t b off n w7) := by
                              have := HT6.out
                              rw [hw7]; exact this
                            have HB7 : Hid (Below wc.heap.size wc w7) := by
                              have := HB6.out
                              rw [hw7]; exact this
                            clear hw7 HT6 HB6 hcy
                            rw [← HM.out]
                            go_wp2_with fail
                            refine (HI.out m d w7 (by omega) hm2 (by omega) HT7.out).mono ?_
                            rintro e w8 ⟨rfl, hb8⟩
                            have HT8 : Hid (Txt t b off n w8) := HT7.out.later hb8
                            have HB8 : Hid (Below wc.heap.size wc w8) := HB7.out.trans (hb8.mono HB7.out.size)
                            clear hb8 HT7 HB7
                            rw [HV.out]
                            go_wp2_with fail
                            refine (zzSkip_any t b off n cap v _ hn hv2 (by exact HT8.out.cells)).mono ?_
                            rintro e w9 ⟨rfl, hw9⟩
                            have HT9 : Hid (Txt t b off n w9) := by
                              have := HT8.out
                              rw [hw9]; exact this
                            have HB9 : Hid (Below wc.heap.size wc w9) := by
                              have := HB8.out
                              rw [hw9]; exact this
                            clear hw9 HT8 HB8
                            rw [← HS.out]
                            have hcs := HT9.out.cells s hsn
                            go_wp2_with fail
                            refine (zzSkip_any t b off n cap (s + 1) _ hn (by omega) (by exact HT9.out.cells)).mono ?_
                            rintro e w10 ⟨rfl, rfl⟩
                            go_wp2_with fail
                            go_roundg (n - Pl.sk t n (s + 1))
                            case measure => omega
                            case rel => exact ⟨_, rfl, by omega, hu2, by omega, HB9.out, by rw [HG2.out, if_neg (by omega), if_neg H9.out, if_neg H4.out]⟩
                          · have H4 : Hid (t s ≠ 44) := h4
                            replace h4 : (t s != 44) = true := by simpa using h4
                            go_wp2_with fail
                            refine (strM_any t HTT.out b off n cap r _ hn hrn' (by exact (HT.out.later HB.out).cells)).mono ?_
                            rintro e w5 ⟨rfl, hw5⟩
                            have HT5 : Hid (Txt t b off n w5) := by
                              have := HT.out.later HB.out
                              rw [hw5]; exact this
                            have HB5 : Hid (Below wc.heap.size wc w5) := by
                              have := HB.out
                              rw [hw5]; exact this
                            clear hw5
                            rw [HE.out]
                            go_wp2_with fail
                            refine (zzSkip_any t b off n cap x _ hn hx2 (by exact HT5.out.cells)).mono ?_
                            rintro e w6 ⟨rfl, hw6⟩
                            have HT6 : Hid (Txt t b off n w6) := by
                              have := HT5.out
                              rw [hw6]; exact this
                            have HB6 : Hid (Below wc.heap.size wc w6) := by
                              have := HB5.out
                              rw [hw6]; exact this
                            clear hw6 HT5 HB5
                            rw [← HY.out]
                            have hcy := HT6.out.cells y hyn
                            go_wp2_with fail
                            refine (zzSkip_any t b off n cap (y + 1) _ hn (by omega) (by exact HT6.out.cells)).mono ?_
                            rintro e w7 ⟨rfl, hw7⟩
                            have HT7 : Hid (Txt t b off n w7) := by
                              have := HT6.out
                              rw [hw7]; exact this
                            have HB7 : Hid (Below wc.heap.size wc w7) := by
                              have := HB6.out
                              rw [hw7]; exact this
                            clear hw7 HT6 HB6 hcy
                            rw [← HM.out]
                            go_wp2_with fail
                            refine (HI.out m d w7 (by omega) hm2 (by omega) HT7.out).mono ?_
                            rintro e w8 ⟨rfl, hb8⟩
                            have HT8 : Hid (Txt t b off n w8) := HT7.out.later hb8
                            have HB8 : Hid (Below wc.heap.size wc w8) := HB7.out.trans (hb8.mono HB7.out.size)
                            clear hb8 HT7 HB7
                            rw [HV.out]
                            go_wp2_with fail
                            refine (zzSkip_any t b off n cap v _ hn hv2 (by exact HT8.out.cells)).mono ?_
                            rintro e w9 ⟨rfl, hw9⟩
                            have HT9 : Hid (Txt t b off n w9) := by
                              have := HT8.out
                              rw [hw9]; exact this
                            have HB9 : Hid (Below wc.heap.size wc w9) := by
                              have := HB8.out
                              rw [hw9]; exact this
                            clear hw9 HT8 HB8
                            rw [← HS.out]
                            have hcs := HT9.out.cells s hsn
                            go_wp2_with fail
                            go_ret
                            exact ⟨ret_int (by rw [HG2.out, if_neg (by omega), if_neg H9.out, if_pos H4.out]), HB9.out⟩
                      · go_wp2_with fail
                        refine (strM_any t HTT.out b off n cap r _ hn hrn' (by exact (HT.out.later HB.out).cells)).mono ?_
                        rintro e w5 ⟨rfl, hw5⟩
                        have HT5 : Hid (Txt t b off n w5) := by
                          have := HT.out.later HB.out
                          rw [hw5]; exact this
                        have HB5 : Hid (Below wc.heap.size wc w5) := by
                          have := HB.out
                          rw [hw5]; exact this
                        clear hw5
                        rw [HE.out]
                        go_wp2_with fail
                        refine (zzSkip_any t b off n cap x _ hn hx2 (by exact HT5.out.cells)).mono ?_
                        rintro e w6 ⟨rfl, hw6⟩
                        have HT6 : Hid (Txt t b off n w6) := by
                          have := HT5.out
                          rw [hw6]; exact this
                        have HB6 : Hid (Below wc.heap.size wc w6) := by
                          have := HB5.out
                          rw [hw6]; exact this
                        clear hw6 HT5 HB5
                        rw [← HY.out]
                        have hcy := HT6.out.cells y hyn
                        go_wp2_with fail
                        refine (zzSkip_any t b off n cap (y + 1) _ hn (by omega) (by exact HT6.out.cells)).mono ?_
                        rintro e w7 ⟨rfl, hw7⟩
                        have HT7 : Hid (Txt t b off n w7) := by
                          have := HT6.out
                          rw [hw7]; exact this
                        have HB7 : Hid (Below wc.heap.size wc w7) := by
                          have := HB6.out
                          rw [hw7]; exact this
                        clear hw7 HT6 HB6 hcy
                        rw [← HM.out]
                        go_wp2_with fail
                        refine (HI.out m d w7 (by omega) hm2 (by omega) HT7.out).mono ?_
                        rintro e w8 ⟨rfl, hb8⟩
                        have HT8 : Hid (Txt t b off n w8) := HT7.out.later hb8
                        have HB8 : Hid (Below wc.heap.size wc w8) := HB7.out.trans (hb8.mono HB7.out.size)
                        clear hb8 HT7 HB7
                        rw [HV.out]
                        go_wp2_with fail
                        refine (zzSkip_any t b off n cap v _ hn hv2 (by exact HT8.out.cells)).mono ?_
                        rintro e w9 ⟨rfl, hw9⟩
                        have HT9 : Hid (Txt t b off n w9) := by
                          have := HT8.out
                          rw [hw9]; exact this
                        have HB9 : Hid (Below wc.heap.size wc w9) := by
                          have := HB8.out
                          rw [hw9]; exact this
                        clear hw9 HT8 HB8
                        rw [← HS.out]
                        go_wp2_with fail
                        go_ret
                        exact ⟨ret_int (by rw [HG2.out, if_pos (by omega)]), HB9.out⟩
                  · have HMN3 : Hid (Pl.mN t n r = -1) := by
                      have := HMN2.out
                      rw [if_pos (.inr h58)] at this
                      exact this
                    clear HMN2
                    replace h58 : (t y != 58) = true := by simpa using h58
                    go_wp2_with fail
                    refine (strM_any t HTT.out b off n cap r _ hn hrn' (by exact (HT.out.later HB.out).cells)).mono ?_
                    rintro e w5 ⟨rfl, hw5⟩
                    have HT5 : Hid (Txt t b off n w5) := by
                      have := HT.out.later HB.out
                      rw [hw5]; exact this
                    have HB5 : Hid (Below wc.heap.size wc w5) := by
                      have := HB.out
                      rw [hw5]; exact this
                    clear hw5
                    rw [HE.out]
                    go_wp2_with fail
                    refine (zzSkip_any t b off n cap x _ hn hx2 (by exact HT5.out.cells)).mono ?_
                    rintro e w6 ⟨rfl, hw6⟩
                    have HT6 : Hid (Txt t b off n w6) := by
                      have := HT5.out
                      rw [hw6]; exact this
                    have HB6 : Hid (Below wc.heap.size wc w6) := by
                      have := HB5.out
                      rw [hw6]; exact this
                    clear hw6 HT5 HB5
                    rw [← HY.out]
                    have hcy := HT6.out.cells y hyn
                    go_wp2_with fail
                    go_ret
                    exact ⟨ret_int (by rw [HRR.out, obj_m HMN3.out]), HB6.out⟩
                · have HMN3 : Hid (Pl.mN t n r = -1) := by
                    have := HMN2.out
                    rw [if_pos (.inl (by omega))] at this
                    exact this
                  clear HMN2
                  go_wp2_with fail
                  refine (strM_any t HTT.out b off n cap r _ hn hrn' (by exact (HT.out.later HB.out).cells)).mono ?_
                  rintro e w5 ⟨rfl, hw5⟩
                  have HT5 : Hid (Txt t b off n w5) := by
                    have := HT.out.later HB.out
                    rw [hw5]; exact this
                  have HB5 : Hid (Below wc.heap.size wc w5) := by
                    have := HB.out
                    rw [hw5]; exact this
                  clear hw5
                  rw [HE.out]
                  go_wp2_with fail
                  refine (zzSkip_any t b off n cap x _ hn hx2 (by exact HT5.out.cells)).mono ?_
                  rintro e w6 ⟨rfl, hw6⟩
                  have HT6 : Hid (Txt t b off n w6) := by
                    have := HT5.out
                    rw [hw6]; exact this
                  have HB6 : Hid (Below wc.heap.size wc w6) := by
                    have := HB5.out
                    rw [hw6]; exact this
                  clear hw6 HT5 HB5
                  rw [← HY.out]
                  go_wp2_with fail
                  go_ret
                  exact ⟨ret_int (by rw [HRR.out, obj_m HMN3.out]), HB6.out⟩
            · have HMN : Hid (Pl.mN t n r = -1) := by
                have : Pl.mN t n r = -1 := by unfold Pl.mN; rw [if_pos (.inr hq4)]
                exact this
              replace hq4 : (t r != 34) = true := by simpa using hq4
              go_wp2_with fail
              go_ret
              exact ⟨ret_int (by rw [HRR.out, obj_m HMN.out]), HB.out⟩
          · have HMN : Hid (Pl.mN t n r = -1) := Pl.mN_end (by omega)
            go_wp2_with fail
            go_ret
            exact ⟨ret_int (by rw [HRR.out, obj_m HMN.out]), HB.out⟩
end Go.Proofs.Qxb6603099a

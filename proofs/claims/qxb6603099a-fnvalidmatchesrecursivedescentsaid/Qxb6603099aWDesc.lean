import Derived.Test.Qxb6603099aProg
import Derived.Test.Qxb6603099aPlainMc
import Derived.Test.Qxb6603099aWSkip
import Derived.Test.Qxb6603099aWScal
import Derived.Test.Qxb6603099aWWordM
import Derived.Test.Qxb6603099aWStrM
import Derived.Test.Qxb6603099aWNumM
import Derived.WalkKit
import Derived.ProofKit
import Derived.Deep.LoopGhost
namespace Go.Proofs.Qxb6603099a
open Go.ChangeShapes Go.WideShapes Go.ChangeAt Go.RowKit
set_option linter.unusedVariables false

/-- What a walk over the descent is told of the text in the world at hand. -/
structure Txt (t : Nat → Int) (b off n : Nat) (w : World) : Prop where
  live : n = 0 ∨ b < w.heap.size
  cells : ∀ k, k < n → w.cell? ⟨b, off + k, none⟩ = some (.int .u8 (t k))
theorem Txt.later {t : Nat → Int} {b off n : Nat} {w w' : World} (h : Txt t b off n w) (hb : Below w.heap.size w w') : Txt t b off n w' :=
  ⟨h.live.imp id fun h => Nat.lt_of_lt_of_le h hb.size, fun k hk => (hb.cell (by have := h.live; show b < _; omega)).trans (h.cells k hk)⟩

/-- The value's contract, for the values that begin k bytes ahead of the end or later. -/
def ValC (t : Nat → Int) (b off n cap k : Nat) : Prop := ∀ (p d : Nat) (w : World), n ≤ p + k → p ≤ n → d ≤ 10000 → Txt t b off n w →
  Calls Try.prog 27 #[.slice (some ⟨b, off, none⟩) n cap, .int .i64 p, .int .i64 d] w fun e w' => e = .returned (.int .i64 (Pl.rd t n 0 p d)) ∧ Below w.heap.size w w'

def arrR (t : Nat → Int) (n p d : Nat) : Int :=
  if 10000 < d then -1 else if Pl.sk t n (p + 1) < n ∧ t (Pl.sk t n (p + 1)) = 93 then (Pl.sk t n (p + 1) : Int) + 1 else Pl.rd t n 2 (Pl.sk t n (p + 1)) d
def objR (t : Nat → Int) (n p d : Nat) : Int :=
  if 10000 < d then -1 else if Pl.sk t n (p + 1) < n ∧ t (Pl.sk t n (p + 1)) = 125 then (Pl.sk t n (p + 1) : Int) + 1 else Pl.rd t n 1 (Pl.sk t n (p + 1)) d

/-- The array's loop, step by step. -/
theorem arr_no {t : Nat → Int} {n p d : Nat} (h : Pl.rd t n 0 p d = -1) : Pl.rd t n 2 p d = -1 := by rw [Pl.rd_arr, h]; rfl
theorem arr_go {t : Nat → Int} {n p d v : Nat} (h : Pl.rd t n 0 p d = v) : Pl.rd t n 2 p d =
    if n ≤ Pl.sk t n v then -1 else if t (Pl.sk t n v) = 93 then (Pl.sk t n v : Int) + 1 else if t (Pl.sk t n v) ≠ 44 then -1 else Pl.rd t n 2 (Pl.sk t n (Pl.sk t n v + 1)) d := by
  rw [Pl.rd_arr, h, if_neg (by omega)]; rfl
theorem obj_m {t : Nat → Int} {n p d : Nat} (h : Pl.mN t n p = -1) : Pl.rd t n 1 p d = -1 := by rw [Pl.rd_obj, h]; rfl
theorem obj_no {t : Nat → Int} {n p d m : Nat} (h0 : Pl.mN t n p = m) (h : Pl.rd t n 0 m d = -1) : Pl.rd t n 1 p d = -1 := by
  rw [Pl.rd_obj, h0, if_neg (by omega)]
  simp only [Int.toNat_natCast]
  rw [h]; rfl
theorem obj_go {t : Nat → Int} {n p d m v : Nat} (h0 : Pl.mN t n p = m) (h : Pl.rd t n 0 m d = v) : Pl.rd t n 1 p d =
    if n ≤ Pl.sk t n v then -1 else if t (Pl.sk t n v) = 125 then (Pl.sk t n v : Int) + 1 else if t (Pl.sk t n v) ≠ 44 then -1 else Pl.rd t n 1 (Pl.sk t n (Pl.sk t n v + 1)) d := by
  rw [Pl.rd_obj, h0, if_neg (by omega)]
  simp only [Int.toNat_natCast]
  rw [h, if_neg (by omega)]; rfl

set_option maxRecDepth 20000 in
set_option maxHeartbeats 400000 in
theorem arr_any (t : Nat → Int) (b off n cap k : Nat) (hn : n ≤ 1048576) (IH : ValC t b off n cap k) (p d : Nat) (w : World) (hk : n ≤ p + (k + 1)) (hp : p < n) (hd : d ≤ 10001) (hT : Txt t b off n w) :
    Calls Try.prog 37 #[.slice (some ⟨b, off, none⟩) n cap, .int .i64 p, .int .i64 d] w fun e w' => e = .returned (.int .i64 (arrR t n p d)) ∧ Below w.heap.size w w' := by
  have HI : Hid (ValC t b off n cap k) := IH
  have HT : Hid (Txt t b off n w) := hT
  clear IH hT
  by_cases hdeep : 10000 < d
  · have HR : Hid (arrR t n p d = -1) := by
      have : arrR t n p d = -1 := by unfold arrR; rw [if_pos hdeep]
      exact this
    go_enter Try.func37, Try.ntmps37
    go_wp2_with fail
    go_ret
    exact ⟨ret_int (by rw [HR.out]), Below.refl _ _⟩
  · have hq1 := Pl.sk_ge t n (p + 1)
    have hq2 := Pl.sk_len t n (p + 1) (by omega)
    have HQ0 : Hid (arrR t n p d = if Pl.sk t n (p + 1) < n ∧ t (Pl.sk t n (p + 1)) = 93 then (Pl.sk t n (p + 1) : Int) + 1 else Pl.rd t n 2 (Pl.sk t n (p + 1)) d) := by
      have : arrR t n p d = if Pl.sk t n (p + 1) < n ∧ t (Pl.sk t n (p + 1)) = 93 then (Pl.sk t n (p + 1) : Int) + 1 else Pl.rd t n 2 (Pl.sk t n (p + 1)) d := by unfold arrR; rw [if_neg hdeep]
      exact this
    obtain ⟨q, hq⟩ : ∃ q, q = Pl.sk t n (p + 1) := ⟨_, rfl⟩
    have HQ : Hid (q = Pl.sk t n (p + 1)) := hq
    have HQ1 : Hid (arrR t n p d = if q < n ∧ t q = 93 then (q : Int) + 1 else Pl.rd t n 2 q d) := by
      have := HQ0.out
      rw [← HQ.out] at this
      exact this
    rw [← hq] at hq1 hq2
    clear hq HQ0
    by_cases hend : q < n ∧ t q = 93
    · have HR : Hid (arrR t n p d = (q : Int) + 1) := by
        have := HQ1.out
        rw [if_pos hend] at this
        exact this
      have hcq := HT.out.cells q hend.1
      have hqn := hend.1
      have h93 : (t q == 93) = true := by simpa using hend.2
      clear hend
      go_enter Try.func37, Try.ntmps37
      go_wp2_with fail
      refine (zzSkip_any t b off n cap (p + 1) _ hn (by omega) (by exact HT.out.cells)).mono ?_
      rintro e w1 ⟨rfl, rfl⟩
      rw [← HQ.out]
      go_wp2_with fail
      go_ret
      exact ⟨ret_int (by rw [HR.out]), Below.refl _ _⟩
    · have HR : Hid (arrR t n p d = Pl.rd t n 2 q d) := by
        have := HQ1.out
        rw [if_neg hend] at this
        exact this
      have hcq := fun (h : q < n) => HT.out.cells q h
      have h93 : q < n → (t q == 93) = false := fun h => by
        have : t q ≠ 93 := fun h' => hend ⟨h, h'⟩
        simpa using this
      clear hend HQ1
      go_enter Try.func37, Try.ntmps37
      go_wp2_with fail
      refine (zzSkip_any t b off n cap (p + 1) _ hn (by omega) (by exact HT.out.cells)).mono ?_
      rintro e w1 ⟨rfl, rfl⟩
      rw [← HQ.out]
      by_cases hqn : q < n
      all_goals
        first
          | (replace hcq := hcq hqn; replace h93 := h93 hqn)
          | clear hcq h93
        go_wp2_with fail
        go_loopg [1] n (fun x x1 wr => ∃ r : Nat, x1 = .int .i64 r ∧ p < r ∧ r ≤ n ∧ n ≤ r + x ∧ Below w1.heap.size w1 wr ∧ arrR t n p d = Pl.rd t n 2 r d)
        case atStart => exact ⟨q, rfl, by omega, by omega, by omega, Below.refl _ _, HR.out⟩
        case round =>
          obtain ⟨r, rfl, hpr, hrn, hrk, hbl, hR⟩ := hrel
          have HB : Hid (Below w1.heap.size w1 wr) := hbl
          have HRR : Hid _ := hR
          clear hbl hR HR
          rcases Pl.rd_or t n 0 r d with hv | ⟨v, hv, hv1, hv2⟩
          · have HV : Hid _ := hv
            clear hv
            go_wp2_with fail
            refine (HI.out r d wr (by omega) hrn (by omega) (HT.out.later HB.out)).mono ?_
            rintro e w2 ⟨rfl, hb2⟩
            have HB2 : Hid _ := hb2
            clear hb2
            rw [HV.out]
            go_wp2_with fail
            go_ret
            exact ⟨ret_int (by rw [HRR.out, arr_no HV.out]), HB.out.trans (HB2.out.mono HB.out.size)⟩
          · have HV : Hid _ := hv
            have HG : Hid _ := arr_go hv
            clear hv
            have hs1 := Pl.sk_ge t n v
            have hs2 := Pl.sk_len t n v hv2
            obtain ⟨s, hs⟩ : ∃ s, s = Pl.sk t n v := ⟨_, rfl⟩
            have HS : Hid (s = Pl.sk t n v) := hs
            have HG2 : Hid (arrR t n p d = if n ≤ s then -1 else if t s = 93 then (s : Int) + 1 else if t s ≠ 44 then -1 else Pl.rd t n 2 (Pl.sk t n (s + 1)) d) := by
              have := HRR.out
              rw [HG.out, ← HS.out] at this
              exact this
            rw [← hs] at hs1 hs2
            clear hs HG
            by_cases hsn : s < n
            · by_cases h9 : t s = 93
              · have H9 : Hid (t s = 93) := h9
                replace h9 : (t s == 93) = true := by simpa using h9
                go_wp2_with fail
                refine (HI.out r d wr (by omega) hrn (by omega) (HT.out.later HB.out)).mono ?_
                rintro e w2 ⟨rfl, hb2⟩
                have HT2 : Hid (Txt t b off n w2) := HT.out.later (HB.out.trans (hb2.mono HB.out.size))
                have HB2 : Hid _ := HB.out.trans (hb2.mono HB.out.size)
                clear hb2
                rw [HV.out]
                go_wp2_with fail
                refine (zzSkip_any t b off n cap v _ hn hv2 (by exact HT2.out.cells)).mono ?_
                rintro e w3 ⟨rfl, rfl⟩
                rw [← HS.out]
                have hcs := HT2.out.cells s hsn
                go_wp2_with fail
                go_ret
                exact ⟨ret_int (by rw [HG2.out, if_neg (by omega), if_pos H9.out]), HB2.out⟩
              · have H9 : Hid (¬ t s = 93) := h9
                replace h9 : (t s == 93) = false := by simpa using h9
                by_cases h4 : t s = 44
                · have H4 : Hid (¬ t s ≠ 44) := fun h => h h4
                  replace h4 : (t s != 44) = false := by simpa using h4
                  have hu1 := Pl.sk_ge t n (s + 1)
                  have hu2 := Pl.sk_len t n (s + 1) (by omega)
                  go_wp2_with fail
                  refine (HI.out r d wr (by omega) hrn (by omega) (HT.out.later HB.out)).mono ?_
                  rintro e w2 ⟨rfl, hb2⟩
                  have HT2 : Hid (Txt t b off n w2) := HT.out.later (HB.out.trans (hb2.mono HB.out.size))
                  have HB2 : Hid _ := HB.out.trans (hb2.mono HB.out.size)
                  clear hb2
                  rw [HV.out]
                  go_wp2_with fail
                  refine (zzSkip_any t b off n cap v _ hn hv2 (by exact HT2.out.cells)).mono ?_
                  rintro e w3 ⟨rfl, rfl⟩
                  rw [← HS.out]
                  have hcs := HT2.out.cells s hsn
                  go_wp2_with fail
                  refine (zzSkip_any t b off n cap (s + 1) _ hn (by omega) (by exact HT2.out.cells)).mono ?_
                  rintro e w4 ⟨rfl, rfl⟩
                  go_wp2_with fail
                  go_roundg (n - Pl.sk t n (s + 1))
                  case measure => omega
                  case rel => exact ⟨_, rfl, by omega, hu2, by omega, HB2.out, by rw [HG2.out, if_neg (by omega), if_neg H9.out, if_neg H4.out]⟩
                · have H4 : Hid (t s ≠ 44) := h4
                  replace h4 : (t s != 44) = true := by simpa using h4
                  go_wp2_with fail
                  refine (HI.out r d wr (by omega) hrn (by omega) (HT.out.later HB.out)).mono ?_
                  rintro e w2 ⟨rfl, hb2⟩
                  have HT2 : Hid (Txt t b off n w2) := HT.out.later (HB.out.trans (hb2.mono HB.out.size))
                  have HB2 : Hid _ := HB.out.trans (hb2.mono HB.out.size)
                  clear hb2
                  rw [HV.out]
                  go_wp2_with fail
                  refine (zzSkip_any t b off n cap v _ hn hv2 (by exact HT2.out.cells)).mono ?_
                  rintro e w3 ⟨rfl, rfl⟩
                  rw [← HS.out]
                  have hcs := HT2.out.cells s hsn
                  go_wp2_with fail
                  go_ret
                  exact ⟨ret_int (by rw [HG2.out, if_neg (by omega), if_neg H9.out, if_pos H4.out]), HB2.out⟩
            · go_wp2_with fail
              refine (HI.out r d wr (by omega) hrn (by omega) (HT.out.later HB.out)).mono ?_
              rintro e w2 ⟨rfl, hb2⟩
              have HT2 : Hid (Txt t b off n w2) := HT.out.later (HB.out.trans (hb2.mono HB.out.size))
              have HB2 : Hid _ := HB.out.trans (hb2.mono HB.out.size)
              clear hb2
              rw [HV.out]
              go_wp2_with fail
              refine (zzSkip_any t b off n cap v _ hn hv2 (by exact HT2.out.cells)).mono ?_
              rintro e w3 ⟨rfl, rfl⟩
              rw [← HS.out]
              go_wp2_with fail
              go_ret
              exact ⟨ret_int (by rw [HG2.out, if_pos (by omega)]), HB2.out⟩
end Go.Proofs.Qxb6603099a

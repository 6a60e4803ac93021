import Derived.Test.Qxb6603099aProg
import Derived.Test.Qxb6603099aWWord
import Derived.WalkKit
import Derived.ProofKit
import Derived.WalkSmall
import Derived.Deep.QuietTactic
import Derived.BigQuiet
namespace Go.Proofs.Qxb6603099a
open Go.ChangeShapes Go.WideShapes Go.ChangeAt Go.RowKit
set_option linter.unusedVariables false

theorem wd_yes {t : Nat → Int} {n p : Nat} {ys : List Int} (h1 : p + ys.length ≤ n) (h2 : ∀ j, j < ys.length → t (p + j) = ys.getD j 0) : Pl.wd t n p ys = ((p + ys.length : Nat) : Int) := by
  unfold Pl.wd; rw [if_pos ⟨h1, (preB_iff t ys p).mpr h2⟩]
theorem wd_no {t : Nat → Int} {n p j : Nat} {ys : List Int} (h1 : j < ys.length) (h2 : ¬ t (p + j) = ys.getD j 0) : Pl.wd t n p ys = -1 := by
  unfold Pl.wd; rw [if_neg (fun h => h2 ((preB_iff t ys p).mp h.2 j h1))]
theorem wd_short {t : Nat → Int} {n p : Nat} {ys : List Int} (h1 : n < p + ys.length) : Pl.wd t n p ys = -1 := by
  unfold Pl.wd; rw [if_neg (fun h => by omega)]

set_option maxRecDepth 20000 in
set_option maxHeartbeats 400000 in
theorem zzWord_any (t : Nat → Int) (s : ByteArray) (ys : List Int) (hl : s.size = ys.length) (hs : ∀ j (h : j < s.size), ((s[j]).toNat : Int) = ys.getD j 0)
    (b off n cap p : Nat) (w : World) (hn : n ≤ 1048576) (hp : p < n) (hm : s.size ≤ 1048576) (hb : b < w.heap.size)
    (hc : ∀ k, k < n → w.cell? ⟨b, off + k, none⟩ = some (.int .u8 (t k))) :
    Calls Try.prog 38 #[.slice (some ⟨b, off, none⟩) n cap, .int .i64 p, .string s] w fun e w' => e = .returned (.int .i64 (Pl.wd t n p ys)) ∧ Below w.heap.size w w' := by
  have HC : Hid (∀ k, k < n → w.cell? ⟨b, off + k, none⟩ = some (.int .u8 (t k))) := hc
  have HS : Hid (∀ j (h : j < s.size), ((s[j]).toNat : Int) = ys.getD j 0) := hs
  have HL : Hid (s.size = ys.length) := hl
  clear hc hs hl
  by_cases hlen : n < p + s.size
  · go_enter Try.func38, Try.ntmps38
    go_wp2
    go_ret
    exact ⟨ret_int (by rw [wd_short (by rw [← HL.out]; exact hlen)]), Below.refl _ _⟩
  · go_enter Try.func38, Try.ntmps38
    go_wp2
    go_loopw [7] (fun x wr => ∃ k : Nat, k ≤ s.size ∧ x = .int .i64 k ∧ (∀ j, j < k → t (p + j) = ys.getD j 0) ∧ Below w.heap.size w wr) (fun x _ => s.size - (intOf x).toNat)
    case atStart => exact ⟨0, Nat.zero_le _, rfl, fun j hj => by omega, Below.refl _ _⟩
    case round =>
      obtain ⟨k, hk, rfl, he, hbl⟩ := hrel
      have HE : Hid _ := he
      have HB : Hid (Below w.heap.size w wr) := hbl
      clear he hbl
      by_cases hlt : k < s.size
      · have h0 : wr.cell? ⟨b, off + (p + k), none⟩ = some (.int .u8 (t (p + k))) := (HB.out.cell (by exact hb)).trans (HC.out (p + k) (by omega))
        have i1 : (0 : Int) ≤ (p : Int) + k := by omega
        have i2 : (p : Int) + k < n := by omega
        have i3 : (0 : Int) ≤ (k : Int) := by omega
        have i4 : (k : Int) < s.size := by omega
        have HSk := HS.out k hlt
        by_cases hq : t (p + k) = ys.getD k 0
        · have HQ : Hid (t (p + k) = ys.getD k 0) := hq
          have hne : (t (p + k) != ((s[k]).toNat : Int)) = false := by rw [HSk, hq]; simp
          clear HSk hq
          go_wp2
          go_quiet (fail)
          go_wp2
          go_roundw
          case rel => exact ⟨k + 1, by omega, by go_num, fun j hj => by
            by_cases e : j = k
            · rw [e]; exact HQ.out
            · exact HE.out j (by omega), below_drewN HB.out _⟩
          case measure => simp [intOf]; omega
        · have HQ : Hid (¬ t (p + k) = ys.getD k 0) := hq
          have hne : (t (p + k) != ((s[k]).toNat : Int)) = true := by rw [HSk]; simpa using hq
          clear HSk hq
          go_wp2
          go_quiet (fail)
          go_wp2
          go_ret
          exact ⟨ret_int (by rw [wd_no (by rw [← HL.out]; exact hlt) HQ.out]), below_drewN HB.out _⟩
      · go_wp2
        go_ret
        exact ⟨ret_int (by rw [wd_yes (by rw [← HL.out]; omega) (fun j hj => HE.out j (by rw [← HL.out] at hj; omega)), ← HL.out]; omega), HB.out⟩
end Go.Proofs.Qxb6603099a

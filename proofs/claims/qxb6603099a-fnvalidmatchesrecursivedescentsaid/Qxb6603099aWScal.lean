import Derived.Test.Qxb6603099aProg
import Derived.Test.Qxb6603099aPlainVal
import Derived.Test.Qxb6603099aWHex
import Derived.Test.Qxb6603099aWNum
import Derived.Test.Qxb6603099aWWord
import Derived.WalkKit
import Derived.ProofKit
namespace Go.Proofs.Qxb6603099a
open Go.ChangeShapes Go.WideShapes Go.ChangeAt Go.RowKit
set_option linter.unusedVariables false

def sTrue : ByteArray := ⟨#[116, 114, 117, 101]⟩
def sFalse : ByteArray := ⟨#[102, 97, 108, 115, 101]⟩
def sNull : ByteArray := ⟨#[110, 117, 108, 108]⟩
def yTrue : List Int := [116, 114, 117, 101]
def yFalse : List Int := [102, 97, 108, 115, 101]
def yNull : List Int := [110, 117, 108, 108]
theorem is_true : ∀ j (h : j < sTrue.size), ((sTrue[j]).toNat : Int) = yTrue.getD j 0 := by decide
theorem is_false : ∀ j (h : j < sFalse.size), ((sFalse[j]).toNat : Int) = yFalse.getD j 0 := by decide
theorem is_null : ∀ j (h : j < sNull.size), ((sNull[j]).toNat : Int) = yNull.getD j 0 := by decide
theorem by_true : ∀ j, 0 ≤ yTrue.getD j 0 ∧ yTrue.getD j 0 ≤ 255
  | 0 => by decide
  | 1 => by decide
  | 2 => by decide
  | 3 => by decide
  | _ + 4 => by simp [yTrue]
theorem by_false : ∀ j, 0 ≤ yFalse.getD j 0 ∧ yFalse.getD j 0 ≤ 255
  | 0 => by decide
  | 1 => by decide
  | 2 => by decide
  | 3 => by decide
  | 4 => by decide
  | _ + 5 => by simp [yFalse]
theorem by_null : ∀ j, 0 ≤ yNull.getD j 0 ∧ yNull.getD j 0 ≤ 255
  | 0 => by decide
  | 1 => by decide
  | 2 => by decide
  | 3 => by decide
  | _ + 4 => by simp [yNull]

/-- Which of the five a byte is, as the switch tests it. -/
theorem sc_cases (c : Int) : ((c == 34) = true ∧ Hid (c = 34)) ∨ ((c == 34) = false ∧ (c == 116) = true ∧ Hid (c = 116)) ∨ ((c == 34) = false ∧ (c == 116) = false ∧ (c == 102) = true ∧ Hid (c = 102)) ∨
    ((c == 34) = false ∧ (c == 116) = false ∧ (c == 102) = false ∧ (c == 110) = true ∧ Hid (c = 110)) ∨ ((c == 34) = false ∧ (c == 116) = false ∧ (c == 102) = false ∧ (c == 110) = false ∧ Hid (c ≠ 34 ∧ c ≠ 116 ∧ c ≠ 102 ∧ c ≠ 110)) := by
  by_cases h1 : c = 34
  · exact .inl ⟨by simpa using h1, h1⟩
  · by_cases h2 : c = 116
    · exact .inr (.inl ⟨by simpa using h1, by simpa using h2, h2⟩)
    · by_cases h3 : c = 102
      · exact .inr (.inr (.inl ⟨by simpa using h1, by simpa using h2, by simpa using h3, h3⟩))
      · by_cases h4 : c = 110
        · exact .inr (.inr (.inr (.inl ⟨by simpa using h1, by simpa using h2, by simpa using h3, by simpa using h4, h4⟩)))
        · exact .inr (.inr (.inr (.inr ⟨by simpa using h1, by simpa using h2, by simpa using h3, by simpa using h4, ⟨h1, h2, h3, h4⟩⟩)))

theorem sc_str {t : Nat → Int} {n i : Nat} (h : i < n) (e : t i = 34) : Pl.sc t n i = Pl.vS t n (i + 1) := by
  unfold Pl.sc; rw [if_neg (by omega), if_pos e]
theorem sc_true {t : Nat → Int} {n i : Nat} (h : i < n) (e : t i = 116) : Pl.sc t n i = Pl.wd t n i yTrue := by
  unfold Pl.sc; rw [if_neg (by omega), if_neg (by omega), if_pos e]; rfl
theorem sc_false {t : Nat → Int} {n i : Nat} (h : i < n) (e : t i = 102) : Pl.sc t n i = Pl.wd t n i yFalse := by
  unfold Pl.sc; rw [if_neg (by omega), if_neg (by omega), if_neg (by omega), if_pos e]; rfl
theorem sc_null {t : Nat → Int} {n i : Nat} (h : i < n) (e : t i = 110) : Pl.sc t n i = Pl.wd t n i yNull := by
  unfold Pl.sc; rw [if_neg (by omega), if_neg (by omega), if_neg (by omega), if_neg (by omega), if_pos e]; rfl
theorem sc_num {t : Nat → Int} {n i : Nat} (h : i < n) (e : t i ≠ 34 ∧ t i ≠ 116 ∧ t i ≠ 102 ∧ t i ≠ 110) : Pl.sc t n i = Pl.nE t n i := by
  unfold Pl.sc; rw [if_neg (by omega), if_neg e.1, if_neg e.2.1, if_neg e.2.2.1, if_neg e.2.2.2]

set_option maxRecDepth 20000 in
set_option maxHeartbeats 400000 in
theorem scalarEnd_any (t : Nat → Int) (ht : ∀ k, 0 ≤ t k ∧ t k ≤ 255) (b off n cap i : Nat) (w : World) (hn : n ≤ 1048576) (hcap : n ≤ cap) (hb : n = 0 ∨ b < w.heap.size)
    (hc : ∀ k, k < n → w.cell? ⟨b, off + k, none⟩ = some (.int .u8 (t k))) :
    Calls Try.prog 26 #[.slice (some ⟨b, off, none⟩) n cap, .int .i64 i] w fun e w' => e = .returned (.int .i64 (Pl.sc t n i)) ∧ Below w.heap.size w w' := by
  have HC : Hid (∀ k, k < n → w.cell? ⟨b, off + k, none⟩ = some (.int .u8 (t k))) := hc
  have HT : Hid (∀ k, 0 ≤ t k ∧ t k ≤ 255) := ht
  clear hc ht
  by_cases hlt : i < n
  · have h0 := HC.out i hlt
    have hb' : b < w.heap.size := by omega
    clear hb
    rcases sc_cases (t i) with ⟨h1, h5⟩ | ⟨h1, h2, h5⟩ | ⟨h1, h2, h3, h5⟩ | ⟨h1, h2, h3, h4, h5⟩ | ⟨h1, h2, h3, h4, h5⟩
    · have HZ : Hid _ := sc_str hlt h5.out
      go_enter Try.func26, Try.ntmps26
      go_wp2_with fail
      refine (validString_any t b off n cap i _ hn hlt HC.out).mono ?_
      rintro e w' ⟨rfl, rfl⟩
      go_wp2_with fail
      go_ret
      exact ⟨ret_int (by rw [HZ.out]), Below.refl _ _⟩
    · have HZ : Hid _ := sc_true hlt h5.out
      go_enter Try.func26, Try.ntmps26
      go_wp2_with fail
      refine (literalEnd_any t HT.out sTrue yTrue rfl is_true by_true b off n cap i w hn hcap hlt (by decide) hb' HC.out).mono ?_
      rintro e w' ⟨rfl, hbl⟩
      have HB : Hid _ := hbl
      clear hbl
      go_wp2_with fail
      go_ret
      exact ⟨ret_int (by rw [HZ.out]), HB.out⟩
    · have HZ : Hid _ := sc_false hlt h5.out
      go_enter Try.func26, Try.ntmps26
      go_wp2_with fail
      refine (literalEnd_any t HT.out sFalse yFalse rfl is_false by_false b off n cap i w hn hcap hlt (by decide) hb' HC.out).mono ?_
      rintro e w' ⟨rfl, hbl⟩
      have HB : Hid _ := hbl
      clear hbl
      go_wp2_with fail
      go_ret
      exact ⟨ret_int (by rw [HZ.out]), HB.out⟩
    · have HZ : Hid _ := sc_null hlt h5.out
      go_enter Try.func26, Try.ntmps26
      go_wp2_with fail
      refine (literalEnd_any t HT.out sNull yNull rfl is_null by_null b off n cap i w hn hcap hlt (by decide) hb' HC.out).mono ?_
      rintro e w' ⟨rfl, hbl⟩
      have HB : Hid _ := hbl
      clear hbl
      go_wp2_with fail
      go_ret
      exact ⟨ret_int (by rw [HZ.out]), HB.out⟩
    · have HZ : Hid _ := sc_num hlt h5.out
      go_enter Try.func26, Try.ntmps26
      go_wp2_with fail
      refine (numberEnd_any t b off n cap i _ hn hlt HC.out).mono ?_
      rintro e w' ⟨rfl, rfl⟩
      go_wp2_with fail
      go_ret
      exact ⟨ret_int (by rw [HZ.out]), Below.refl _ _⟩
  · have HZ : Hid (Pl.sc t n i = -1) := by
      have : Pl.sc t n i = -1 := by unfold Pl.sc; rw [if_pos (by omega)]
      exact this
    go_enter Try.func26, Try.ntmps26
    go_wp2_with fail
    go_ret
    exact ⟨ret_int (by rw [HZ.out]), Below.refl _ _⟩
end Go.Proofs.Qxb6603099a

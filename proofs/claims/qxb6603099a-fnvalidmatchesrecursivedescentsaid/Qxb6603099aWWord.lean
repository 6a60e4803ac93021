import Derived.Test.Qxb6603099aProg
import Derived.Test.Qxb6603099aPlainVal
import Derived.Test.Qxb6603099aWHex
import Derived.WalkKit
import Derived.ProofKit
import Derived.WalkSpells
import Derived.Laws.BytesArg
import Derived.Laws.IdiomStrings
import Derived.Deep.QuietTactic
import Derived.BigQuiet
namespace Go.Proofs.Qxb6603099a
open Go.ChangeShapes Go.WideShapes Go.ChangeAt Go.RowKit
set_option linter.unusedVariables false

theorem equal_any (xs ys : List Int) (b off cap b' off' cap' : Nat) (w : World)
    (hx : ∀ i, i < xs.length → w.cell? ⟨b, off + i, none⟩ = some (.int .u8 (xs.getD i 0)))
    (hy : ∀ i, i < ys.length → w.cell? ⟨b', off' + i, none⟩ = some (.int .u8 (ys.getD i 0))) :
    Calls Try.prog 44 #[.slice (some ⟨b, off, none⟩) xs.length cap, .slice (some ⟨b', off', none⟩) ys.length cap'] w fun e w' => e = .returned (.bool ((strOfNums xs).toList == (strOfNums ys).toList)) ∧ w' = w := by
  have h1 := run_convert_bytes_arg (P := Try.prog) w 22 5 Try.underlying22 Try.underlying5 b off xs.length cap xs rfl hx 9 Try.underlying9
  have h2 := run_convert_bytes_arg (P := Try.prog) w 22 5 Try.underlying22 Try.underlying5 b' off' ys.length cap' ys rfl hy 9 Try.underlying9
  clear hx hy
  go_enter Try.func44, Try.ntmps44
  go_wp2
  go_ret
  exact ⟨rfl, rfl⟩

/-- The bytes t from 0 on, m of them, as a list. -/
def tl (t : Nat → Int) (m : Nat) : List Int := (List.range m).map t
theorem tl_length (t : Nat → Int) (m : Nat) : (tl t m).length = m := by simp [tl]
theorem tl_getD (t : Nat → Int) (m i : Nat) (h : i < m) : (tl t m).getD i 0 = t i := by
  simp [tl, h]
theorem preB_sh (t : Nat → Int) : ∀ (ys : List Int) (d i : Nat), Pl.preB (fun x => t (d + x)) i ys = Pl.preB t (d + i) ys
  | [], _, _ => rfl
  | y :: ys, d, i => by
    simp only [Pl.preB]
    rw [preB_sh t ys d (i + 1)]
    rfl
theorem preB_iff (t : Nat → Int) : ∀ (ys : List Int) (i : Nat), Pl.preB t i ys = true ↔ ∀ j, j < ys.length → t (i + j) = ys.getD j 0
  | [], i => by simp [Pl.preB]
  | y :: ys, i => by
    simp only [Pl.preB, Bool.and_eq_true, beq_iff_eq]
    rw [preB_iff t ys (i + 1)]
    constructor
    · rintro ⟨h0, h⟩ j hj
      cases j with
      | zero => simpa using h0
      | succ j => have := h j (by simpa using hj); simpa [Nat.add_assoc, Nat.add_comm 1 j] using this
    · intro h
      refine ⟨by simpa using h 0 (by simp), fun j hj => ?_⟩
      have := h (j + 1) (by simpa using hj)
      simpa [Nat.add_assoc, Nat.add_comm 1 j] using this
theorem u8_inj {a b : Int} (ha : 0 ≤ a ∧ a ≤ 255) (hb : 0 ≤ b ∧ b ≤ 255) (h : UInt8.ofNat a.toNat = UInt8.ofNat b.toNat) : a = b := by
  have := congrArg UInt8.toNat h
  simp at this
  omega
theorem str_eq (t : Nat → Int) (ht : ∀ k, 0 ≤ t k ∧ t k ≤ 255) (ys : List Int) (hy : ∀ j, 0 ≤ ys.getD j 0 ∧ ys.getD j 0 ≤ 255) :
    ((strOfNums (tl t ys.length)).toList == (strOfNums ys).toList) = Pl.preB t 0 ys := by
  rw [Bool.eq_iff_iff, preB_iff]
  have e1 : (strOfNums (tl t ys.length)).toList = (tl t ys.length).map fun n => UInt8.ofNat n.toNat := by
    rw [← strOfNums_data]; exact ByteArray.toList_eq _
  have e2 : (strOfNums ys).toList = ys.map fun n => UInt8.ofNat n.toNat := by
    rw [← strOfNums_data]; exact ByteArray.toList_eq _
  rw [e1, e2, beq_iff_eq]
  constructor
  · intro h j hj
    have hj' : j < (tl t ys.length).length := by rw [tl_length]; exact hj
    have := congrArg (fun l => l[j]?) h
    simp [hj, tl] at this
    have h2 := u8_inj (ht j) (by have := hy j; simpa [List.getD_eq_getElem?_getD, hj] using this) this
    simpa [List.getD_eq_getElem?_getD, hj] using h2
  · intro h
    have : tl t ys.length = ys := by
      apply List.ext_getElem
      · rw [tl_length]
      · intro j h1 h2
        have := h j h2
        simp [tl]
        simpa [List.getD_eq_getElem?_getD, h2] using this
    rw [this]

theorem hasPrefix_any (t : Nat → Int) (ht : ∀ k, 0 ≤ t k ∧ t k ≤ 255) (ys : List Int) (hy : ∀ j, 0 ≤ ys.getD j 0 ∧ ys.getD j 0 ≤ 255) (b off n cap b' off' cap' : Nat) (w : World) (hn : n ≤ 1048576) (hcap : n ≤ cap) (hm : ys.length ≤ 1048576)
    (hx : ∀ i, i < n → w.cell? ⟨b, off + i, none⟩ = some (.int .u8 (t i)))
    (hyc : ∀ i, i < ys.length → w.cell? ⟨b', off' + i, none⟩ = some (.int .u8 (ys.getD i 0))) :
    Calls Try.prog 43 #[.slice (some ⟨b, off, none⟩) n cap, .slice (some ⟨b', off', none⟩) ys.length cap'] w fun e w' => e = .returned (.bool (decide (ys.length ≤ n) && Pl.preB t 0 ys)) ∧ w' = w := by
  have HX : Hid (∀ i, i < n → w.cell? ⟨b, off + i, none⟩ = some (.int .u8 (t i))) := hx
  have HY : Hid (∀ i, i < ys.length → w.cell? ⟨b', off' + i, none⟩ = some (.int .u8 (ys.getD i 0))) := hyc
  have HT : Hid (∀ k, 0 ≤ t k ∧ t k ≤ 255) := ht
  have HT2 : Hid (∀ j, 0 ≤ ys.getD j 0 ∧ ys.getD j 0 ≤ 255) := hy
  clear hx hyc ht hy
  by_cases hle : ys.length ≤ n
  · have H := equal_any (tl t ys.length) ys b off cap b' off' cap' w (fun i hi => by
      rw [tl_length] at hi; rw [HX.out i (by omega), tl_getD _ _ _ hi]) HY.out
    rw [tl_length, str_eq t HT.out ys HT2.out] at H
    have H' : Hid (Calls Try.prog 44 #[.slice (some ⟨b, off, none⟩) ys.length cap, .slice (some ⟨b', off', none⟩) ys.length cap'] w fun e w' => e = .returned (.bool (Pl.preB t 0 ys)) ∧ w' = w) := H
    clear H
    go_enter Try.func43, Try.ntmps43
    go_wp2_with fail
    refine (Calls.mono H'.out) ?_
    rintro e w' ⟨rfl, rfl⟩
    go_wp2_with fail
    go_ret
    exact ⟨ret_bool (by simp [hle]), rfl⟩
  · go_enter Try.func43, Try.ntmps43
    go_wp2_with fail
    go_ret
    exact ⟨ret_bool (by simp; omega), rfl⟩

/-- The literal's bytes as they lie behind '[]byte(literal)'. -/
theorem lit_cells (w : World) (s : ByteArray) (ys : List Int) (hl : s.size = ys.length) (hs : ∀ j (h : j < s.size), ((s[j]).toNat : Int) = ys.getD j 0) (cap : Nat) (fz : Nat × Nat) :
    ∀ i, i < ys.length → (w.drew.alloc (.cells (bytesRow s cap) 5 fz)).cell? ⟨w.heap.size, 0 + i, none⟩ = some (.int .u8 (ys.getD i 0)) := by
  intro i hi
  have hz : (w.drew.alloc (.cells (bytesRow s cap) 5 fz)).heap[w.heap.size]? = some (.cells (bytesRow s cap) 5 fz) := heap_alloc_new w.drew _
  rw [Nat.zero_add, cell_of_row _ _ i _ 5 fz hz]
  have hsz : i < s.data.size := by rw [← hl] at hi; exact hi
  unfold bytesRow
  rw [Array.getElem?_append_left (by simpa using hsz)]
  have := hs i (by rw [hl]; exact hi)
  have e : s.data[i]? = some s[i] := Array.getElem?_eq_getElem hsz
  simp only [Array.getElem?_map, e, Option.map_some]
  rw [this]

set_option maxRecDepth 20000 in
theorem literalEnd_any (t : Nat → Int) (ht : ∀ k, 0 ≤ t k ∧ t k ≤ 255) (s : ByteArray) (ys : List Int) (hl : s.size = ys.length) (hs : ∀ j (h : j < s.size), ((s[j]).toNat : Int) = ys.getD j 0) (hy : ∀ j, 0 ≤ ys.getD j 0 ∧ ys.getD j 0 ≤ 255)
    (b off n cap i : Nat) (w : World) (hn : n ≤ 1048576) (hcap : n ≤ cap) (hi : i < n) (hm : ys.length ≤ 1048576) (hb : b < w.heap.size)
    (hc : ∀ k, k < n → w.cell? ⟨b, off + k, none⟩ = some (.int .u8 (t k))) :
    Calls Try.prog 35 #[.slice (some ⟨b, off, none⟩) n cap, .int .i64 i, .string s] w fun e w' => e = .returned (.int .i64 (Pl.wd t n i ys)) ∧ Below w.heap.size w w' := by
  have HC : Hid (∀ k, k < n → w.cell? ⟨b, off + k, none⟩ = some (.int .u8 (t k))) := hc
  have HL : Hid _ := lit_cells w s ys hl hs
  have HT : Hid (∀ k, 0 ≤ t k ∧ t k ≤ 255) := ht
  have HT2 : Hid (∀ j, 0 ≤ ys.getD j 0 ∧ ys.getD j 0 ≤ 255) := hy
  have hcv := fun wx => run_bytes_of_string (P := Try.prog) wx 9 22 5 s Try.underlying9 Try.underlying22 Try.underlying5
  rw [hl] at hcv
  have HLen : Hid (s.size = ys.length) := hl
  clear hc ht hy hs hl
  have hsz : s.size ≤ 1048576 := by rw [HLen.out]; exact hm
  have HB : Hid (∀ o, Below w.heap.size w (w.alloc o).drew) := fun o => ((Below.refl _ _).alloc (Nat.le_refl _) o).drew
  have HX : Hid (∀ o k, k < n - i → (w.alloc o).drew.cell? ⟨b, off + i + k, none⟩ = some (.int .u8 (t (i + k)))) := fun o k hk => by
    rw [(HB.out o).cell (by exact hb), Nat.add_assoc]
    exact HC.out (i + k) (by omega)
  have HW : Hid (Pl.wd t n i ys = if (decide (ys.length ≤ n - i) && Pl.preB (fun x => t (i + x)) 0 ys) = true then ((i + ys.length : Nat) : Int) else -1) := by
    have : Pl.wd t n i ys = if (decide (ys.length ≤ n - i) && Pl.preB (fun x => t (i + x)) 0 ys) = true then ((i + ys.length : Nat) : Int) else -1 := by
      rw [preB_sh]
      unfold Pl.wd
      have : (i + ys.length ≤ n ∧ Pl.preB t i ys = true) ↔ (decide (ys.length ≤ n - i) && Pl.preB t (i + 0) ys) = true := by
        simp; intro _; omega
      simp only [this]
    exact this
  by_cases hq : (decide (ys.length ≤ n - i) && Pl.preB (fun x => t (i + x)) 0 ys) = true
  · have HQ : Hid _ := hq
    clear hq
    go_enter Try.func35, Try.ntmps35
    go_wp2_with fail
    refine (hasPrefix_any (fun x => t (i + x)) (fun k => HT.out (i + k)) ys HT2.out b (off + i) (n - i) (cap - i) w.heap.size 0 _ _ (by omega) (by omega) hm (by exact HX.out _) (by exact HL.out _ _)).mono ?_
    rintro e w' ⟨rfl, rfl⟩
    rw [HQ.out]
    go_wp2_with fail
    go_ret
    exact ⟨ret_int (by rw [HW.out, if_pos HQ.out, HLen.out]; omega), HB.out _⟩
  · have HQ : Hid ((decide (ys.length ≤ n - i) && Pl.preB (fun x => t (i + x)) 0 ys) = false) := Bool.eq_false_iff.mpr hq
    clear hq
    go_enter Try.func35, Try.ntmps35
    go_wp2_with fail
    refine (hasPrefix_any (fun x => t (i + x)) (fun k => HT.out (i + k)) ys HT2.out b (off + i) (n - i) (cap - i) w.heap.size 0 _ _ (by omega) (by omega) hm (by exact HX.out _) (by exact HL.out _ _)).mono ?_
    rintro e w' ⟨rfl, rfl⟩
    rw [HQ.out]
    go_wp2_with fail
    go_ret
    exact ⟨ret_int (by rw [HW.out, if_neg (by rw [HQ.out]; simp)]), HB.out _⟩
end Go.Proofs.Qxb6603099a

import Derived.Test.Qxb6603099aProg
import Derived.WalkKit
import Derived.ProofKit
import Derived.WalkSpells
namespace Go.Proofs.Qxb6603099a
open Go.ChangeShapes Go.WideShapes Go.ChangeAt Go.RowKit

theorem Try.info5 : (Try.prog.info? 5).map (fun i => (i.zero, i.size, i.bytes)) = some (some (.int .u8 0), 1, 1) := by kernel_rfl

/-- The loop's relation at a store. -/
theorem clone_step {t : Nat → Int} {B n k : Nat} {w wr : World} {xs : List Value} (hk : k < n)
    (hown : wr.ownsRow B 5 1 (.slice (some ⟨B, 0, none⟩) n n) n xs) (hx : ∀ j, j < k → xs[j]? = some (.int .u8 (t j))) (hb : Below B w wr) :
    (wr.setCell ⟨B, k, none⟩ (.int .u8 (t k))).ownsRow B 5 1 (.slice (some ⟨B, 0, none⟩) n n) n (xs.set k (.int .u8 (t k))) ∧
    (∀ j, j < k + 1 → (xs.set k (.int .u8 (t k)))[j]? = some (.int .u8 (t j))) ∧ Below B w (wr.setCell ⟨B, k, none⟩ (.int .u8 (t k))) := by
  refine ⟨(hown.stored k _).1, ?_, hb.setCell (Nat.le_refl _) _⟩
  intro j hj
  have hl : xs.length = n * 1 := hown.1
  by_cases e : j = k
  · subst e; rw [List.getElem?_set_self (by omega)]
  · rw [List.getElem?_set_ne (by omega)]; exact hx j (by omega)

theorem clone_cell {B n k : Nat} {wr : World} {xs : List Value} (hk : k < n)
    (hown : wr.ownsRow B 5 1 (.slice (some ⟨B, 0, none⟩) n n) n xs) : ∃ v, wr.cell? ⟨B, k, none⟩ = some v ∧ wr.frozen? ⟨B, k, none⟩ = false := by
  have hl : xs.length = n * 1 := hown.1
  have := hown.cellAt k (by omega)
  rw [List.getElem?_eq_getElem (by omega)] at this
  exact ⟨_, this, hown.frozenAt k⟩

set_option maxRecDepth 20000 in
theorem clone_any (t : Nat → Int) (b off n cap : Nat) (w : World) (hn : n ≤ 1048576) (hB : n = 0 ∨ b < w.heap.size)
    (hc : ∀ k, k < n → w.cell? ⟨b, off + k, none⟩ = some (.int .u8 (t k))) :
    Calls Try.prog 10 #[.slice (some ⟨b, off, none⟩) n cap] w fun e w' => e = .returned (.slice (some ⟨w.heap.size, 0, none⟩) n n) ∧
      (∀ k, k < n → w'.cell? ⟨w.heap.size, 0 + k, none⟩ = some (.int .u8 (t k))) ∧ Below w.heap.size w w' := by
  obtain ⟨i0, hi, hz0, hz1, hz2⟩ := info_parts Try.info5
  have heq := fun wx => Lib.run_eql_slice_nil (P := Try.prog) wx 22 5 (some ⟨b, off, none⟩) n cap 0 0 Try.underlying22
  go_enter Try.func10, Try.ntmps10
  go_wp2_with (at_make; refine wpList_make_full _ rfl _ _ 22 rfl w.heap.size 5 i0 (.int .u8 0) 1 Try.underlying22 hi hz0 hz1 .i64 .i64 n n n rfl rfl rfl rfl (by rw [hz2]; omega) (by unfold maxLen; omega) (Nat.le_refl _) ?_)
  intro w1 hown hgr
  have hb1 : Below w.heap.size w w1 := (Below.refl _ _).grown hgr (Nat.le_refl _) (fun k h => by cases h)
  clear hgr
  go_wp2
  go_loopw [4] (fun x wr => ∃ (k : Nat) (xs : List Value), k ≤ n ∧ x = .int .i64 k ∧ wr.ownsRow w.heap.size 5 1 (.slice (some ⟨w.heap.size, 0, none⟩) n n) n xs ∧
      (∀ j, j < k → xs[j]? = some (.int .u8 (t j))) ∧ Below w.heap.size w wr) (fun x _ => n - (intOf x).toNat)
  case atStart => exact ⟨0, _, Nat.zero_le _, rfl, hown, fun j hj => absurd hj (by omega), hb1⟩
  case round =>
    clear hown hb1
    obtain ⟨k, xs, hk, rfl, hown, hx, hb⟩ := hrel
    by_cases hlt : k < n
    · have hcx : wr.cell? ⟨b, off + k, none⟩ = some (.int .u8 (t k)) := (hb.cell (by show b < _; omega)).trans (hc k hlt)
      obtain ⟨v, hcd, hfd⟩ := clone_cell hlt hown
      have R : Hid _ := clone_step hlt hown hx hb
      clear hc hx hb hown
      go_wp2
      go_roundw
      case rel => exact ⟨k + 1, _, by omega, by go_num, R.out.1, R.out.2.1, R.out.2.2⟩
      case measure => simp [intOf]; omega
    · have hfin : Hid (∀ j, j < n → wr.cell? ⟨w.heap.size, 0 + j, none⟩ = some (.int .u8 (t j))) := fun j hj => by
        rw [Nat.zero_add, hown.cellAt j (by omega)]; exact hx j (by omega)
      have HB : Hid (Below w.heap.size w wr) := hb
      clear hc hx hb hown
      go_wp2
      go_ret
      exact ⟨rfl, hfin.out, HB.out⟩

theorem clone_nil (w : World) : Calls Try.prog 10 #[.slice none 0 0] w fun e w' => e = .returned (.slice none 0 0) ∧ w' = w := by
  have heq := fun wx => Lib.run_eql_slice_nil (P := Try.prog) wx 22 5 none 0 0 0 0 Try.underlying22
  go_enter Try.func10, Try.ntmps10
  go_wp2
  go_ret
  exact ⟨rfl, rfl⟩
end Go.Proofs.Qxb6603099a

import Derived.Test.Qxb6603127aWMain
import Derived.OpenShut
namespace Go.Proofs.Qxb6603127a
open Go.ChangeShapes Go.WideShapes Go.ChangeAt Go.RowKit
set_option linter.unusedVariables false

set_option maxRecDepth 20000 in
theorem law_huge (a0 a1 : Option Addr) (n m c0 c1 : Nat) (sp : Bool) (w : World) (hn : n ≤ 9223372036854775807) (hm : m ≤ 9223372036854775807) (h : 1048576 < n + m) :
    Calls Try.prog 3 #[.slice a0 n c0, .slice a1 m c1, .bool sp] w fun e w' => e = .returned (.bool true) ∧ Below w.heap.size w w' := by
  have H := hid (fun wx => bytes_no a0 a1 n m c0 c1 sp wx hn hm h)
  clear hn hm
  go_enter Try.func3, Try.ntmps3
  go_wp2_with fail
  refine (Calls.mono (H.out _)) ?_
  rintro e w' ⟨rfl, rfl⟩
  go_wp2_with fail
  go_ret
  exact ⟨rfl, Below.refl _ _⟩
set_option maxRecDepth 20000 in
theorem law_long (a0 a1 : Option Addr) (n m c0 c1 : Nat) (sp : Bool) (w : World) (hnm : n + m ≤ 1048576) (h : 8192 < n ∨ 1048576 < 2 * n + m) :
    Calls Try.prog 3 #[.slice a0 n c0, .slice a1 m c1, .bool sp] w fun e w' => e = .returned (.bool true) ∧ Below w.heap.size w w' := by
  by_cases h1 : 8192 < n
  · go_enter Try.func3, Try.ntmps3
    go_wp2_with fail
    refine (bytes_yes a0 a1 n m c0 c1 sp _ hnm).mono ?_
    rintro e w' ⟨rfl, rfl⟩
    go_wp2_with fail
    go_ret
    exact ⟨rfl, Below.refl _ _⟩
  · have h2 : 1048576 < 2 * n + m := by omega
    clear h
    go_enter Try.func3, Try.ntmps3
    go_wp2_with fail
    refine (bytes_yes a0 a1 n m c0 c1 sp _ hnm).mono ?_
    rintro e w' ⟨rfl, rfl⟩
    go_wp2_with fail
    go_ret
    exact ⟨rfl, Below.refl _ _⟩

/-- Every input. -/
theorem law_any (a0 a1 : Option Addr) (n m c0 c1 : Nat) (sp : Bool) (u : Nat → Nat) (d : Nat → Bool) (hu : ∀ j, u j < 65536) (w : World) (hn : n ≤ maxLen) (hm : m ≤ maxLen)
    (hc0 : Came w a0 n c0 (fun j => .int .u16 (u j))) (hc1 : Came w a1 m c1 (fun j => .bool (d j))) :
    Calls Try.prog 3 #[.slice a0 n c0, .slice a1 m c1, .bool sp] w fun e w' => e = .returned (.bool true) ∧ Below w.heap.size w w' := by
  unfold maxLen at hn hm
  by_cases h1 : n + m ≤ 1048576
  · by_cases h2 : 8192 < n ∨ 1048576 < 2 * n + m
    · exact law_long a0 a1 n m c0 c1 sp w h1 h2
    · exact main_any a0 a1 n m c0 c1 sp u d hu w (by omega) (by omega) hc0 hc1
  · exact law_huge a0 a1 n m c0 c1 sp w (by omega) (by omega) (by omega)

/-- The numbers of a slice of uint16s that came in. -/
theorem came_u16 {w : World} {x : Addr} {n c : Nat} {zs : List Int} (hl : n ≤ zs.length) (hc : ∀ i, i < zs.length → w.cell? (x.add i) = some (.int .u16 (zs.getD i 0))) (hw : ∀ z ∈ zs, (Lit.int .u16 z).wf = true) :
    (∀ j : Nat, (zs.getD j (0 : Int)).toNat < 65536) ∧ Came w (some x) n c (fun j => .int .u16 (((zs.getD j (0 : Int)).toNat : Nat) : Int)) := by
  have hb : ∀ j : Nat, 0 ≤ zs.getD j (0 : Int) ∧ zs.getD j (0 : Int) ≤ 65535 := fun j => by
    by_cases hj : j < zs.length
    · have h := hw zs[j] (List.getElem_mem hj)
      simp [Lit.wf, IntKind.min, IntKind.max, IntKind.signed, IntKind.bits] at h
      rw [List.getD_eq_getElem?_getD, List.getElem?_eq_getElem hj, Option.getD_some]
      omega
    · rw [List.getD_eq_getElem?_getD, List.getElem?_eq_none (by omega : zs.length ≤ j), Option.getD_none]
      omega
  refine ⟨fun j => by have := hb j; omega, .inr ⟨x, rfl, fun j hj => ?_⟩⟩
  rw [hc j (by omega)]
  have := hb j
  show _ = some (Value.int .u16 (((zs.getD j (0 : Int)).toNat : Nat) : Int))
  rw [show (((zs.getD j (0 : Int)).toNat : Nat) : Int) = zs.getD j (0 : Int) by omega]
end Go.Proofs.Qxb6603127a

import Derived.Test.Qxb6603127aDoorWPu
import Derived.Lib.Strings
import Derived.Lib.Walk
import Derived.Lib.BufferWrite
import Derived.Lib.UnsafeStr
import Derived.Lib.Hide
import Derived.Laws.MakeOwn
import Derived.Deep.OwnRows
import Derived.WalkKit
import Derived.Lib.AtoiErrMem
import Derived.RegionTactic
import Derived.Deep.RegionWith
import Derived.BigCall
import Derived.Lib.IfaceEq
import Derived.BigGuard
namespace Go.Proofs.Qxb6603127aDoor
open Go.ChangeShapes Go.WideShapes Go.ChangeAt Go.RowKit
set_option linter.unusedVariables false

set_option maxHeartbeats 4000000 in
set_option maxRecDepth 100000 in
/-- internal/stringslite.Clone at a string that is not empty: the same bytes. -/
theorem clone_any (s : ByteArray) (w : World) (h0 : s.size ≠ 0) (hlim : s.size ≤ 1048576) :
    Calls Tryd.prog 24 #[.string s] w fun e w' => e = .returned (.string s) ∧ Below w.heap.size w w' := by
  have hinfo : (Tryd.prog.info? 5).map (·.size) = some 1 := by kernel_rfl
  have hco : Tryd.prog.cellsOf 5 = 1 := by kernel_rfl
  have hmk0 := run_make_row' (P := Tryd.prog) 22 5 (.int .u8 0) 1 Tryd.underlying22 (by kernel_rfl) rfl .i64 .i64 s.size (by omega) (by omega)
  obtain ⟨M, hM⟩ : ∃ M, M = madeCells #[Value.int .u8 0] s.size := ⟨_, rfl⟩
  have hMs : M.size = s.size := by rw [hM, size_madeCells]
  rw [← hM] at hmk0
  have hcp := Lib.run_copy_row_string (P := Tryd.prog) (w.alloc (.cells M 5)) 22 9 3 5 w.heap.size 0 s.size s.size s M 5 Tryd.underlying22 hinfo (heap_alloc_new w _) (Nat.le_refl _) (by omega)
  obtain ⟨Y, hY⟩ : ∃ Y, Y = (M.toList.take 0 ++ Lib.byteCells s.data.toList ++ M.toList.drop (0 + s.size)).toArray := ⟨_, rfl⟩
  rw [← hY] at hcp
  have hYl : Y.toList = Lib.byteCells s.data.toList := by
    rw [hY, List.toList_toArray, List.take_zero, List.nil_append, List.drop_of_length_le (by rw [Array.length_toList]; omega), List.append_nil]
  have hYs : Y.size = s.size := by rw [← Array.length_toList, hYl, Lib.byteCells_length, ← Lib.size_eq]
  have hgY : ((w.alloc (.cells M 5)).setRow w.heap.size Y).heap[w.heap.size]? = some (.cells Y 5 (0, 0)) := setRow_heap _ _ M _ 5 (0, 0) (heap_alloc_new w _)
  have hne : s.data.toList ≠ [] := fun e => h0 (by rw [Lib.size_eq, e]; rfl)
  have hUS := Lib.run_unsafeString_row (P := Tryd.prog) ((w.alloc (.cells M 5)).setRow w.heap.size Y) 49 3 9 5 Tryd.underlying49 hco w.heap.size Y.size (by unfold World.shape?; rw [hgY]) s.data.toList hne (by rw [← Lib.size_eq]; omega) (by rw [← Lib.size_eq]; omega)
      (fun j x hx => Lib.cells_of_row hgY Y.size j _ (by rw [List.take_of_length_le (by rw [Array.length_toList]; exact Nat.le_refl _), hYl]; simp [Lib.byteCells, hx]))
  rw [← Lib.size_eq] at hUS
  clear hY hM
  go_enter Tryd.func24, Tryd.ntmps24
  go_wp2
  go_ret
  have hb1 : Below w.heap.size w (w.alloc (.cells M 5)) := (Below.refl _ w).alloc (Nat.le_refl _) _
  have hb2 : Below w.heap.size (w.alloc (.cells M 5)) ((w.alloc (.cells M 5)).setRow w.heap.size Y) := ⟨rfl, rfl, rfl, by simp, fun k hk => setRow_other _ _ _ _ (by omega)⟩
  exact ⟨rfl, Lib.below_freeze (hb1.trans hb2) (p := ⟨w.heap.size, 0, none⟩) (Nat.le_refl _) _⟩

set_option maxHeartbeats 6400000 in
set_option maxRecDepth 100000 in
/-- strconv.syntaxError. -/
theorem synErr_any (fn s : ByteArray) (te : TypeId) (pe : Value) (w : World) (h0 : s.size ≠ 0) (hlim : s.size ≤ 1048576) (hv : w.cell? ⟨0, 0, none⟩ = some (.iface te pe)) :
    Calls Tryd.prog 20 #[.string fn, .string s] w fun e w' => ∃ N, e = .returned (.pointer (some ⟨N, 0, none⟩)) ∧ Below w.heap.size w w' := by
  have hG : 0 < w.heap.size := Lib.lt_of_cell hv
  have hvd : w.drew.cell? ⟨0, 0, none⟩ = some (.iface te pe) := hv
  go_enter Tryd.func20, Tryd.ntmps20
  go_wp2
  go_region_with (
      go_at_call 24
      refine (clone_any s _ h0 hlim).mono ?_
      rintro e w2 ⟨rfl, hbel⟩
      have hv2 : w2.cell? ⟨0, 0, none⟩ = some (.iface te pe) := (hbel.cell (show (⟨0, 0, none⟩ : Addr).block < w.drew.heap.size from hG)).trans hvd)
  all_goals (
      go_wp2
      go_ret
      have hs2 : w.heap.size ≤ w2.heap.size := hbel.size
      exact ⟨_, rfl, ((Below.drew (Below.refl _ w)).trans hbel).alloc hs2 _⟩)

set_option maxHeartbeats 4000000 in
set_option maxRecDepth 100000 in
/-- strconv.toError at the inner package's ErrSyntax. -/
theorem toError_any (fn s : ByteArray) (base bits : Int) (te : TypeId) (pe : Value) (w : World) (h0 : s.size ≠ 0) (hlim : s.size ≤ 1048576) (hv : w.cell? ⟨0, 0, none⟩ = some (.iface te pe)) :
    Calls Tryd.prog 17 #[.string fn, .string s, .int .i64 base, .int .i64 bits, .iface 38 (.int .i64 2)] w fun e w' => ∃ N, e = .returned (.iface 41 (.pointer (some ⟨N, 0, none⟩))) ∧ Below w.heap.size w w' := by
  have heq : ∀ W, (binOp .eql 34 (.iface 38 (.int .i64 2)) (.iface 38 (.int .i64 2))).run Tryd.prog W = .ok (.bool true) W := fun W => Lib.run_eql_iface_int W 2 2 Tryd.underlying34 (by kernel_rfl) Tryd.underlying38
  go_enter Tryd.func17, Tryd.ntmps17
  go_wp2_with (go_at_call 20; refine (synErr_any fn s te pe _ h0 hlim hv).mono ?_; rintro e w2 ⟨N, rfl, h3⟩)
  go_ret
  exact ⟨N, rfl, h3⟩
end Go.Proofs.Qxb6603127aDoor

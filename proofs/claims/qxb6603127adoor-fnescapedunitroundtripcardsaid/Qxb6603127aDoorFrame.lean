import Derived.Test.Qxb6603127aDoorRows
import Derived.Test.Qxb6603127aDoorWLaws
import Derived.WalkKit
import Derived.ProofKit
import Derived.OpenShut
import Derived.ShutString
import Derived.ChangeOld
import Derived.ChangeSame
import Derived.ChangeVars
import Derived.JoinedOf
import Derived.RowKit
import Derived.RowKitTokens
import Derived.LaidLaws
import Derived.Below
namespace Go.Proofs.Qxb6603127aDoor
open Go.ChangeShapes Go.WideShapes Go.ChangeAt Go.RowKit
set_option linter.unusedVariables false

theorem own : ownKnob Tryd.prog.godebug = none := by kernel_rfl
theorem laidOut : laidOutB Tryd.prog = true := by kernel_rfl
theorem gSyn : Tryd.prog.globalNamed "strconv.ErrSyntax" = some 0 := by kernel_rfl
theorem gSynType : (Tryd.prog.globals[0]?).map (·.type) = some 34 := by kernel_rfl

/-- The list of variables that the rows lay. -/
abbrev five : List (String × DataW Unit) := [("math/bits.deBruijn32tab", Rows.laid_math_bits_deBruijn32tab), ("math/bits.deBruijn64tab", Rows.laid_math_bits_deBruijn64tab), ("internal/strconv.uint64pow10", Rows.laid_internal_strconv_uint64pow10), ("strconv.ErrRange", Rows.laid_strconv_ErrRange), ("strconv.ErrSyntax", Rows.laid_strconv_ErrSyntax)]

/-- What the condition gives the walks: strconv.ErrSyntax holds an error. -/
theorem syn_of_laid {W : World} (h : laidMet Tryd.prog five W) : ∃ te pe, W.cell? ⟨0, 0, none⟩ = some (.iface te pe) := by
  obtain ⟨ps, ⟨g0, t0, cs0, f0, p0, q0, hg0, ht0, hv0, hd0, ⟨g1, t1, cs1, f1, p1, q1, hg1, ht1, hv1, hd1, ⟨g2, t2, cs2, f2, p2, q2, hg2, ht2, hv2, hd2, ⟨g3, t3, cs3, f3, p3, q3, hg3, ht3, hv3, hd3, ⟨g4, t4, cs4, f4, p4, q4, hg4, ht4, hv4, hd4, hq4, e4⟩, e3⟩, e2⟩, e1⟩, e0⟩, hnd, hrows⟩ := h
  obtain rfl := Option.some.inj (gSyn.symm.trans hg4)
  obtain rfl := Option.some.inj (gSynType.symm.trans ht4)
  obtain ⟨l4⟩ := cs4
  obtain ⟨f', u, v, hl, _, _⟩ := iface_of_trod Tryd.underlying34 hd4
  have hl : l4 = [.iface u v] := hl
  subst hl
  exact ⟨u, v, by simpa using World.var?_cell hg4 hv4 0⟩

abbrev synS : ByteArray := { data := #[105, 110, 118, 97, 108, 105, 100, 32, 115, 121, 110, 116, 97, 120] }
abbrev ranS : ByteArray := { data := #[118, 97, 108, 117, 101, 32, 111, 117, 116, 32, 111, 102, 32, 114, 97, 110, 103, 101] }
noncomputable def base0 : Nat := (World.holding Tryd.prog default ⟨#[], #[], []⟩).heap.size
/-- A world in which the five variables are laid. -/
noncomputable def laidWorld (os : Os) : World :=
  let w0 := World.holding Tryd.prog os ⟨#[.cells #[.string synS] 52, .cells #[.string ranS] 52], #[], []⟩
  { w0 with heap := ((((w0.heap.modify 0 fun
      | .cells _ t frozen => .cells #[.iface 50 (.pointer (some ⟨base0, 0, none⟩))] t frozen
      | o => o).modify 1 fun
      | .cells _ t frozen => .cells #[.iface 50 (.pointer (some ⟨base0 + 1, 0, none⟩))] t frozen
      | o => o).modify 2 fun
      | .cells _ t frozen => .cells #[(.int .u64 1), (.int .u64 10), (.int .u64 100), (.int .u64 1000), (.int .u64 10000), (.int .u64 100000), (.int .u64 1000000), (.int .u64 10000000), (.int .u64 100000000), (.int .u64 1000000000), (.int .u64 10000000000), (.int .u64 100000000000), (.int .u64 1000000000000), (.int .u64 10000000000000), (.int .u64 100000000000000), (.int .u64 1000000000000000), (.int .u64 10000000000000000), (.int .u64 100000000000000000), (.int .u64 1000000000000000000), (.int .u64 10000000000000000000)] t frozen
      | o => o).modify 3 fun
      | .cells _ t frozen => .cells #[(.int .u8 0), (.int .u8 1), (.int .u8 28), (.int .u8 2), (.int .u8 29), (.int .u8 14), (.int .u8 24), (.int .u8 3), (.int .u8 30), (.int .u8 22), (.int .u8 20), (.int .u8 15), (.int .u8 25), (.int .u8 17), (.int .u8 4), (.int .u8 8), (.int .u8 31), (.int .u8 27), (.int .u8 13), (.int .u8 23), (.int .u8 21), (.int .u8 19), (.int .u8 16), (.int .u8 7), (.int .u8 26), (.int .u8 12), (.int .u8 18), (.int .u8 6), (.int .u8 11), (.int .u8 5), (.int .u8 10), (.int .u8 9)] t frozen
      | o => o).modify 4 fun
      | .cells _ t frozen => .cells #[(.int .u8 0), (.int .u8 1), (.int .u8 56), (.int .u8 2), (.int .u8 57), (.int .u8 49), (.int .u8 28), (.int .u8 3), (.int .u8 61), (.int .u8 58), (.int .u8 42), (.int .u8 50), (.int .u8 38), (.int .u8 29), (.int .u8 17), (.int .u8 4), (.int .u8 62), (.int .u8 47), (.int .u8 59), (.int .u8 36), (.int .u8 45), (.int .u8 43), (.int .u8 51), (.int .u8 22), (.int .u8 53), (.int .u8 39), (.int .u8 33), (.int .u8 30), (.int .u8 24), (.int .u8 18), (.int .u8 12), (.int .u8 5), (.int .u8 63), (.int .u8 55), (.int .u8 48), (.int .u8 27), (.int .u8 60), (.int .u8 41), (.int .u8 37), (.int .u8 16), (.int .u8 46), (.int .u8 35), (.int .u8 44), (.int .u8 21), (.int .u8 52), (.int .u8 32), (.int .u8 23), (.int .u8 11), (.int .u8 54), (.int .u8 26), (.int .u8 40), (.int .u8 15), (.int .u8 34), (.int .u8 20), (.int .u8 31), (.int .u8 10), (.int .u8 25), (.int .u8 14), (.int .u8 19), (.int .u8 9), (.int .u8 13), (.int .u8 8), (.int .u8 7), (.int .u8 6)] t frozen
      | o => o }
theorem laidWorld_met (os : Os) (args : Array Value) : laidMet Tryd.prog five ((laidWorld os).forCall (fun _ _ => 0) ⟨#[], args, []⟩).memory :=
  laidMet_of_run (ps := (List.range 32).map (MemPlace.cell 3) ++ ((List.range 64).map (MemPlace.cell 4) ++ ((List.range 20).map (MemPlace.cell 2) ++ [.cell 1 0, .cell (base0 + 1) 0, .cell 0 0, .cell base0 0]))) 8 (by kernel_rfl) (by kernel_rfl) (by kernel_rfl)
end Go.Proofs.Qxb6603127aDoor

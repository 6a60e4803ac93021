/-
  No cell of these rows narrows 'for every input' (looked for: loops, veiled, ifaces, maps, wideKeys, modest, calm, conditions, laid).
  DERIVED. THE GIVEN ROWS OF THIS SEAT. 6 by the template 'for every input the law returns true; each argument reads behind the call as it read before'; 0 by the template 'total and deterministic' (their statements: Qxb6603099aTotals.lean).
  GIVEN WITH THE SEED: the statements are not yours to turn. If you find one false, say at which input.
  Laid BY PROGRAM, IN A SANDBOX (cutbox-rows.mjs): the forced cells as the released guide's own fill.sh prints them over the translation 4e5fcc42fc3f213d… (all of the seat's roots in one cut). By AI agents, Wed Nov 11 2026. No macro, syntax, notation, axiom, sorry.
-/
import Derived.Test.Qxb6603099aChecked
import GoSem.Claim
import GoSem.ClaimJoined
import GoSem.ClaimMapViews
import Derived.JoinedTies
import Derived.KernelRfl
namespace Go.Proofs.Qxb6603099a
/- THE CELL 'sum', in the pinned program and in every row, IS THE sha256 OF THE DUMP (.gsa) THAT Qxb6603099aProg.lean LOADS. Nothing in Lean hashes anything: it is a label: what it is worth is what the hold of that sum in a sandbox is worth. -/
noncomputable def Try.pinned : Pinned := { name := "qxb6603099a", sum := "4e5fcc42fc3f213d15f181acc8b2e49a1620f74ca2c3741aa1ae1ab75a14ccbd", checked := Try.checked }
namespace Rows
def none {H : Type} : Left H := { results := [], args := [] }

/-- 'zzlaws_internal_jsonscan_b1.FnValidMatchesRecursiveDescent': WHATEVER THE INPUT: true; the input reads as it did. -/
def fnValidMatchesRecursiveDescentSpec : ChangeSpec := { name := "fnValidMatchesRecursiveDescent", fn := fun _ => fun
  | [d] => { results := [.lit (.bool true)], args := [d] }
  | _ => none }
def fnValidMatchesRecursiveDescentRow : OpenClaim := { program := "qxb6603099a", sum := "4e5fcc42fc3f213d15f181acc8b2e49a1620f74ca2c3741aa1ae1ab75a14ccbd", func := "example.com/ordinance/ordinance/zzlaws_internal_jsonscan_b1.FnValidMatchesRecursiveDescent", spec := "fnValidMatchesRecursiveDescent", recurses := true, apart := false }
def FnValidMatchesRecursiveDescentSaid : Prop := fnValidMatchesRecursiveDescentRow.holds Try.pinned (OpenSpec.ofChange fnValidMatchesRecursiveDescentSpec)

/-- ITS FALSE NEIGHBOUR: 'it returns false'. Refute it at one input. -/
def fnValidMatchesRecursiveDescentWrong : ChangeSpec := { name := "fnValidMatchesRecursiveDescent", fn := fun _ => fun
  | [d] => { results := [.lit (.bool false)], args := [d] }
  | _ => none }
def FnValidMatchesRecursiveDescentWrongFalsely : Prop := fnValidMatchesRecursiveDescentRow.holds Try.pinned (OpenSpec.ofChange fnValidMatchesRecursiveDescentWrong)

/-- 'zzlaws_internal_jsonscan_b1.FnValidIgnoresSurroundingSpace': WHATEVER THE INPUT: true; the input reads as it did. -/
def fnValidIgnoresSurroundingSpaceSpec : ChangeSpec := { name := "fnValidIgnoresSurroundingSpace", fn := fun _ => fun
  | [d1, d2, d3] => { results := [.lit (.bool true)], args := [d1, d2, d3] }
  | _ => none }
def fnValidIgnoresSurroundingSpaceRow : OpenClaim := { program := "qxb6603099a", sum := "4e5fcc42fc3f213d15f181acc8b2e49a1620f74ca2c3741aa1ae1ab75a14ccbd", func := "example.com/ordinance/ordinance/zzlaws_internal_jsonscan_b1.FnValidIgnoresSurroundingSpace", spec := "fnValidIgnoresSurroundingSpace", apart := false }
def FnValidIgnoresSurroundingSpaceSaid : Prop := fnValidIgnoresSurroundingSpaceRow.holds Try.pinned (OpenSpec.ofChange fnValidIgnoresSurroundingSpaceSpec)

/-- ITS FALSE NEIGHBOUR: 'it returns false'. Refute it at one input. -/
def fnValidIgnoresSurroundingSpaceWrong : ChangeSpec := { name := "fnValidIgnoresSurroundingSpace", fn := fun _ => fun
  | [d1, d2, d3] => { results := [.lit (.bool false)], args := [d1, d2, d3] }
  | _ => none }
def FnValidIgnoresSurroundingSpaceWrongFalsely : Prop := fnValidIgnoresSurroundingSpaceRow.holds Try.pinned (OpenSpec.ofChange fnValidIgnoresSurroundingSpaceWrong)

/-- 'zzlaws_internal_jsonscan_b1.FnValidStringMatchesBackslashRunModel': WHATEVER THE INPUT: true; the input reads as it did. -/
def fnValidStringMatchesBackslashRunModelSpec : ChangeSpec := { name := "fnValidStringMatchesBackslashRunModel", fn := fun _ => fun
  | [d1, d2] => { results := [.lit (.bool true)], args := [d1, d2] }
  | _ => none }
def fnValidStringMatchesBackslashRunModelRow : OpenClaim := { program := "qxb6603099a", sum := "4e5fcc42fc3f213d15f181acc8b2e49a1620f74ca2c3741aa1ae1ab75a14ccbd", func := "example.com/ordinance/ordinance/zzlaws_internal_jsonscan_b1.FnValidStringMatchesBackslashRunModel", spec := "fnValidStringMatchesBackslashRunModel", apart := false }
def FnValidStringMatchesBackslashRunModelSaid : Prop := fnValidStringMatchesBackslashRunModelRow.holds Try.pinned (OpenSpec.ofChange fnValidStringMatchesBackslashRunModelSpec)

/-- ITS FALSE NEIGHBOUR: 'it returns false'. Refute it at one input. -/
def fnValidStringMatchesBackslashRunModelWrong : ChangeSpec := { name := "fnValidStringMatchesBackslashRunModel", fn := fun _ => fun
  | [d1, d2] => { results := [.lit (.bool false)], args := [d1, d2] }
  | _ => none }
def FnValidStringMatchesBackslashRunModelWrongFalsely : Prop := fnValidStringMatchesBackslashRunModelRow.holds Try.pinned (OpenSpec.ofChange fnValidStringMatchesBackslashRunModelWrong)

/-- 'zzlaws_internal_jsonscan_b1.FnValidStringEndIsTight': WHATEVER THE INPUT: true; the input reads as it did. -/
def fnValidStringEndIsTightSpec : ChangeSpec := { name := "fnValidStringEndIsTight", fn := fun _ => fun
  | [d1, d2] => { results := [.lit (.bool true)], args := [d1, d2] }
  | _ => none }
def fnValidStringEndIsTightRow : OpenClaim := { program := "qxb6603099a", sum := "4e5fcc42fc3f213d15f181acc8b2e49a1620f74ca2c3741aa1ae1ab75a14ccbd", func := "example.com/ordinance/ordinance/zzlaws_internal_jsonscan_b1.FnValidStringEndIsTight", spec := "fnValidStringEndIsTight", apart := false }
def FnValidStringEndIsTightSaid : Prop := fnValidStringEndIsTightRow.holds Try.pinned (OpenSpec.ofChange fnValidStringEndIsTightSpec)

/-- ITS FALSE NEIGHBOUR: 'it returns false'. Refute it at one input. -/
def fnValidStringEndIsTightWrong : ChangeSpec := { name := "fnValidStringEndIsTight", fn := fun _ => fun
  | [d1, d2] => { results := [.lit (.bool false)], args := [d1, d2] }
  | _ => none }
def FnValidStringEndIsTightWrongFalsely : Prop := fnValidStringEndIsTightRow.holds Try.pinned (OpenSpec.ofChange fnValidStringEndIsTightWrong)

/-- 'zzlaws_internal_jsonscan_b1.FnNumberEndMatchesAutomaton': WHATEVER THE INPUT: true; the input reads as it did. -/
def fnNumberEndMatchesAutomatonSpec : ChangeSpec := { name := "fnNumberEndMatchesAutomaton", fn := fun _ => fun
  | [d1, d2] => { results := [.lit (.bool true)], args := [d1, d2] }
  | _ => none }
def fnNumberEndMatchesAutomatonRow : OpenClaim := { program := "qxb6603099a", sum := "4e5fcc42fc3f213d15f181acc8b2e49a1620f74ca2c3741aa1ae1ab75a14ccbd", func := "example.com/ordinance/ordinance/zzlaws_internal_jsonscan_b1.FnNumberEndMatchesAutomaton", spec := "fnNumberEndMatchesAutomaton", apart := false }
def FnNumberEndMatchesAutomatonSaid : Prop := fnNumberEndMatchesAutomatonRow.holds Try.pinned (OpenSpec.ofChange fnNumberEndMatchesAutomatonSpec)

/-- ITS FALSE NEIGHBOUR: 'it returns false'. Refute it at one input. -/
def fnNumberEndMatchesAutomatonWrong : ChangeSpec := { name := "fnNumberEndMatchesAutomaton", fn := fun _ => fun
  | [d1, d2] => { results := [.lit (.bool false)], args := [d1, d2] }
  | _ => none }
def FnNumberEndMatchesAutomatonWrongFalsely : Prop := fnNumberEndMatchesAutomatonRow.holds Try.pinned (OpenSpec.ofChange fnNumberEndMatchesAutomatonWrong)

/-- 'zzlaws_internal_jsonscan_b1.FnNumberEndSpanStandsAlone': WHATEVER THE INPUT: true; the input reads as it did. -/
def fnNumberEndSpanStandsAloneSpec : ChangeSpec := { name := "fnNumberEndSpanStandsAlone", fn := fun _ => fun
  | [d1, d2] => { results := [.lit (.bool true)], args := [d1, d2] }
  | _ => none }
def fnNumberEndSpanStandsAloneRow : OpenClaim := { program := "qxb6603099a", sum := "4e5fcc42fc3f213d15f181acc8b2e49a1620f74ca2c3741aa1ae1ab75a14ccbd", func := "example.com/ordinance/ordinance/zzlaws_internal_jsonscan_b1.FnNumberEndSpanStandsAlone", spec := "fnNumberEndSpanStandsAlone", apart := false }
def FnNumberEndSpanStandsAloneSaid : Prop := fnNumberEndSpanStandsAloneRow.holds Try.pinned (OpenSpec.ofChange fnNumberEndSpanStandsAloneSpec)

/-- ITS FALSE NEIGHBOUR: 'it returns false'. Refute it at one input. -/
def fnNumberEndSpanStandsAloneWrong : ChangeSpec := { name := "fnNumberEndSpanStandsAlone", fn := fun _ => fun
  | [d1, d2] => { results := [.lit (.bool false)], args := [d1, d2] }
  | _ => none }
def FnNumberEndSpanStandsAloneWrongFalsely : Prop := fnNumberEndSpanStandsAloneRow.holds Try.pinned (OpenSpec.ofChange fnNumberEndSpanStandsAloneWrong)

end Rows
end Go.Proofs.Qxb6603099a

/-
  No cell of these rows narrows 'for every input' (looked for: loops, veiled, ifaces, maps, wideKeys, modest, calm, conditions, laid).
  DERIVED. THE GIVEN ROWS OF THIS SEAT. 1 by the template 'for every input the law returns true; each argument reads behind the call as it read before'; 0 by the template 'total and deterministic' (their statements: Qxb6603127aTotals.lean).
  GIVEN WITH THE SEED: the statements are not yours to turn. If you find one false, say at which input.
  Laid BY PROGRAM, IN A SANDBOX (cutbox-rows.mjs): the forced cells as the released guide's own fill.sh prints them over the translation 1a9e159e939538a7… (all of the seat's roots in one cut). By AI agents, Wed Nov 11 2026. No macro, syntax, notation, axiom, sorry.
-/
import Derived.Test.Qxb6603127aChecked
import GoSem.Claim
import GoSem.ClaimJoined
import GoSem.ClaimMapViews
import Derived.JoinedTies
import Derived.KernelRfl
namespace Go.Proofs.Qxb6603127a
/- THE CELL 'sum', in the pinned program and in every row, IS THE sha256 OF THE DUMP (.gsa) THAT Qxb6603127aProg.lean LOADS. Nothing in Lean hashes anything: it is a label: what it is worth is what the hold of that sum in a sandbox is worth. -/
noncomputable def Try.pinned : Pinned := { name := "qxb6603127a", sum := "1a9e159e939538a7228a065f4a7ac79f9ec23fed3818955f39230431d2eab9ab", checked := Try.checked }
namespace Rows
def none {H : Type} : Left H := { results := [], args := [] }

/-- 'zzlaws_internal_jsondoc_b1.FnBlankDescendingKeepsTheRest': WHATEVER THE INPUT: true; the input reads as it did. -/
def fnBlankDescendingKeepsTheRestSpec : ChangeSpec := { name := "fnBlankDescendingKeepsTheRest", fn := fun _ => fun
  | [d1, d2, d3] => { results := [.lit (.bool true)], args := [d1, d2, d3] }
  | _ => none }
def fnBlankDescendingKeepsTheRestRow : OpenClaim := { program := "qxb6603127a", sum := "1a9e159e939538a7228a065f4a7ac79f9ec23fed3818955f39230431d2eab9ab", func := "example.com/counterstep/counterstep/zzlaws_internal_jsondoc_b1.FnBlankDescendingKeepsTheRest", spec := "fnBlankDescendingKeepsTheRest", apart := false }
def FnBlankDescendingKeepsTheRestSaid : Prop := fnBlankDescendingKeepsTheRestRow.holds Try.pinned (OpenSpec.ofChange fnBlankDescendingKeepsTheRestSpec)

/-- ITS FALSE NEIGHBOUR: 'it returns false'. Refute it at one input. -/
def fnBlankDescendingKeepsTheRestWrong : ChangeSpec := { name := "fnBlankDescendingKeepsTheRest", fn := fun _ => fun
  | [d1, d2, d3] => { results := [.lit (.bool false)], args := [d1, d2, d3] }
  | _ => none }
def FnBlankDescendingKeepsTheRestWrongFalsely : Prop := fnBlankDescendingKeepsTheRestRow.holds Try.pinned (OpenSpec.ofChange fnBlankDescendingKeepsTheRestWrong)

end Rows
end Go.Proofs.Qxb6603127a

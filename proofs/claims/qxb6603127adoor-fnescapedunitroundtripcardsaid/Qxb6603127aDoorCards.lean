/-
  DERIVED. GIVEN WITH THE SEED: THE CARDS: each row of Qxb6603127aDoorRows.lean that lists a variable, with what it lists TIED to the program's text (the seventh form; the later family's looks); each row that meets fmt, with fmt's text TOLD by the authors' own Lean function (tested against real Go, not proved from fmt's source: count such statements apart). THE CARD IS WHAT COUNTS. Prove the row's statement (the work); the ties are given (Qxb6603127aDoorTie.lean); close each card by the builder's one call (the guide's Derived/Test/ToyasCard.lean, 'card_holds'). Laid BY PROGRAM, IN A SANDBOX (cutbox-door.mjs). By AI agents, Wed Nov 11 2026. No macro, syntax, notation, axiom, sorry.
-/
import Derived.Test.Qxb6603127aDoorRows
import GoSem.ClaimSeven
namespace Go.Proofs.Qxb6603127aDoor
namespace Rows

/-- THE TIED CARD OF 'zzlaws_internal_jsondoc_b1.FnEscapedUnitExact'. -/
def fnEscapedUnitExactCard : Claim7 := { stood := { row := fnEscapedUnitExactRow, standIns := [], harness := (true, "c3d3d335600ec2e3cf2674eea20285356b8520039e5d813b04d0bbfb83a5616a"), looks := true }, kinds := [], alts := [], laidByText := true, laidKinds := [.data, .data, .data, .called, .called], laidTests := true, laidLooks := .later }
def FnEscapedUnitExactCardSaid : Prop := Claim7.holds Tryd.pinned (.plain (OpenSpec.ofChange fnEscapedUnitExactSpec)) fnEscapedUnitExactCard

/-- THE TIED CARD OF 'zzlaws_internal_jsondoc_b1.FnEscapedUnitRoundTrip'. -/
def fnEscapedUnitRoundTripCard : Claim7 := { stood := { row := fnEscapedUnitRoundTripRow, standIns := [], harness := (true, "c3d3d335600ec2e3cf2674eea20285356b8520039e5d813b04d0bbfb83a5616a"), looks := true }, kinds := [], alts := [], laidByText := true, laidKinds := [.data, .data, .data, .called, .called], laidTests := true, laidLooks := .later }
def FnEscapedUnitRoundTripCardSaid : Prop := Claim7.holds Tryd.pinned (.plain (OpenSpec.ofChange fnEscapedUnitRoundTripSpec)) fnEscapedUnitRoundTripCard

/-- THE TIED CARD OF 'zzlaws_internal_jsondoc_b1.FnEscapedUnitIgnoresTail'. -/
def fnEscapedUnitIgnoresTailCard : Claim7 := { stood := { row := fnEscapedUnitIgnoresTailRow, standIns := [], harness := (true, "c3d3d335600ec2e3cf2674eea20285356b8520039e5d813b04d0bbfb83a5616a"), looks := true }, kinds := [], alts := [], laidByText := true, laidKinds := [.data, .data, .data, .called, .called], laidTests := true, laidLooks := .later }
def FnEscapedUnitIgnoresTailCardSaid : Prop := Claim7.holds Tryd.pinned (.plain (OpenSpec.ofChange fnEscapedUnitIgnoresTailSpec)) fnEscapedUnitIgnoresTailCard
end Rows
end Go.Proofs.Qxb6603127aDoor

/-
  No cell of these rows narrows 'for every input' (looked for: loops, veiled, ifaces, maps, wideKeys, modest, calm, conditions, laid).
  DERIVED. THE GIVEN ROWS OF THIS SEAT. 3 by the template 'for every input the law returns true; each argument reads behind the call as it read before'; 0 by the template 'total and deterministic' (their statements: Qxb6612671aTotals.lean).
  GIVEN WITH THE SEED: the statements are not yours to turn. If you find one false, say at which input.
  Laid BY PROGRAM, IN A SANDBOX (cutbox-rows.mjs): the forced cells as the released guide's own fill.sh prints them over the translation b312288d165d1a22… (all of the seat's roots in one cut). By AI agents, Wed Nov 11 2026. No macro, syntax, notation, axiom, sorry.
-/
import Derived.Test.Qxb6612671aChecked
import GoSem.Claim
import GoSem.ClaimJoined
import GoSem.ClaimMapViews
import Derived.JoinedTies
import Derived.KernelRfl
namespace Go.Proofs.Qxb6612671a
/- THE CELL 'sum', in the pinned program and in every row, IS THE sha256 OF THE DUMP (.gsa) THAT Qxb6612671aProg.lean LOADS. Nothing in Lean hashes anything: it is a label: what it is worth is what the hold of that sum in a sandbox is worth. -/
noncomputable def Try.pinned : Pinned := { name := "qxb6612671a", sum := "b312288d165d1a22e79658c24bfd0f9731981d01f2fb53d69113be0773481000", checked := Try.checked }
namespace Rows
def none {H : Type} : Left H := { results := [], args := [] }

/-- 'zzlaws_internal_search_b1.FnEarlierTrichotomyIgnoringEnd': WHATEVER THE INPUT: true; the input reads as it did. -/
def fnEarlierTrichotomyIgnoringEndSpec : ChangeSpec := { name := "fnEarlierTrichotomyIgnoringEnd", fn := fun _ => fun
  | [d1, d2, d3, d4, d5, d6] => { results := [.lit (.bool true)], args := [d1, d2, d3, d4, d5, d6] }
  | _ => none }
def fnEarlierTrichotomyIgnoringEndRow : OpenClaim := { program := "qxb6612671a", sum := "b312288d165d1a22e79658c24bfd0f9731981d01f2fb53d69113be0773481000", func := "example.com/isoscope/isoscope/zzlaws_internal_search_b1.FnEarlierTrichotomyIgnoringEnd", spec := "fnEarlierTrichotomyIgnoringEnd", plainKeys := false, apart := false }
def FnEarlierTrichotomyIgnoringEndSaid : Prop := fnEarlierTrichotomyIgnoringEndRow.holds Try.pinned (OpenSpec.ofChange fnEarlierTrichotomyIgnoringEndSpec)

/-- ITS FALSE NEIGHBOUR: 'it returns false'. Refute it at one input. -/
def fnEarlierTrichotomyIgnoringEndWrong : ChangeSpec := { name := "fnEarlierTrichotomyIgnoringEnd", fn := fun _ => fun
  | [d1, d2, d3, d4, d5, d6] => { results := [.lit (.bool false)], args := [d1, d2, d3, d4, d5, d6] }
  | _ => none }
def FnEarlierTrichotomyIgnoringEndWrongFalsely : Prop := fnEarlierTrichotomyIgnoringEndRow.holds Try.pinned (OpenSpec.ofChange fnEarlierTrichotomyIgnoringEndWrong)

/-- 'zzlaws_internal_search_b1.FnReadsOfWritesLatestTakenWrite': WHATEVER THE INPUT: true; the input reads as it did. -/
def fnReadsOfWritesLatestTakenWriteSpec : ChangeSpec := { name := "fnReadsOfWritesLatestTakenWrite", fn := fun _ => fun
  | [d1, d2] => { results := [.lit (.bool true)], args := [d1, d2] }
  | _ => none }
def fnReadsOfWritesLatestTakenWriteRow : OpenClaim := { program := "qxb6612671a", sum := "b312288d165d1a22e79658c24bfd0f9731981d01f2fb53d69113be0773481000", func := "example.com/isoscope/isoscope/zzlaws_internal_search_b1.FnReadsOfWritesLatestTakenWrite", spec := "fnReadsOfWritesLatestTakenWrite", unfollowed := true, recurses := true, plainKeys := false, apart := false }
def FnReadsOfWritesLatestTakenWriteSaid : Prop := fnReadsOfWritesLatestTakenWriteRow.holds Try.pinned (OpenSpec.ofChange fnReadsOfWritesLatestTakenWriteSpec)

/-- ITS FALSE NEIGHBOUR: 'it returns false'. Refute it at one input. -/
def fnReadsOfWritesLatestTakenWriteWrong : ChangeSpec := { name := "fnReadsOfWritesLatestTakenWrite", fn := fun _ => fun
  | [d1, d2] => { results := [.lit (.bool false)], args := [d1, d2] }
  | _ => none }
def FnReadsOfWritesLatestTakenWriteWrongFalsely : Prop := fnReadsOfWritesLatestTakenWriteRow.holds Try.pinned (OpenSpec.ofChange fnReadsOfWritesLatestTakenWriteWrong)

/-- 'zzlaws_internal_search_b1.FnReadsOfWritesCutAtAnyPlace': WHATEVER THE INPUT: true; the input reads as it did. -/
def fnReadsOfWritesCutAtAnyPlaceSpec : ChangeSpec := { name := "fnReadsOfWritesCutAtAnyPlace", fn := fun _ => fun
  | [d1, d2, d3] => { results := [.lit (.bool true)], args := [d1, d2, d3] }
  | _ => none }
def fnReadsOfWritesCutAtAnyPlaceRow : OpenClaim := { program := "qxb6612671a", sum := "b312288d165d1a22e79658c24bfd0f9731981d01f2fb53d69113be0773481000", func := "example.com/isoscope/isoscope/zzlaws_internal_search_b1.FnReadsOfWritesCutAtAnyPlace", spec := "fnReadsOfWritesCutAtAnyPlace", unfollowed := true, recurses := true, plainKeys := false, apart := false }
def FnReadsOfWritesCutAtAnyPlaceSaid : Prop := fnReadsOfWritesCutAtAnyPlaceRow.holds Try.pinned (OpenSpec.ofChange fnReadsOfWritesCutAtAnyPlaceSpec)

/-- ITS FALSE NEIGHBOUR: 'it returns false'. Refute it at one input. -/
def fnReadsOfWritesCutAtAnyPlaceWrong : ChangeSpec := { name := "fnReadsOfWritesCutAtAnyPlace", fn := fun _ => fun
  | [d1, d2, d3] => { results := [.lit (.bool false)], args := [d1, d2, d3] }
  | _ => none }
def FnReadsOfWritesCutAtAnyPlaceWrongFalsely : Prop := fnReadsOfWritesCutAtAnyPlaceRow.holds Try.pinned (OpenSpec.ofChange fnReadsOfWritesCutAtAnyPlaceWrong)

end Rows
end Go.Proofs.Qxb6612671a

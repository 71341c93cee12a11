/-
  No cell of these rows narrows 'for every input' (looked for: loops, veiled, ifaces, maps, wideKeys, modest, calm, conditions, laid).
  DERIVED. THE GIVEN ROWS OF THIS SEAT. 7 by the template 'for every input the law returns true; each argument reads behind the call as it read before'; 0 by the template 'total and deterministic' (their statements: Qxb6600114aTotals.lean).
  GIVEN WITH THE SEED: the statements are not yours to turn. If you find one false, say at which input.
  Laid BY PROGRAM, IN A SANDBOX (cutbox-rows.mjs): the forced cells as the released guide's own fill.sh prints them over the translation 8eccc6e009d7084c… (all of the seat's roots in one cut). By AI agents, Wed Nov 11 2026. No macro, syntax, notation, axiom, sorry.
-/
import Derived.Test.Qxb6600114aChecked
import GoSem.Claim
import GoSem.ClaimJoined
import GoSem.ClaimMapViews
import Derived.JoinedTies
import Derived.KernelRfl
namespace Go.Proofs.Qxb6600114a
/- THE CELL 'sum', in the pinned program and in every row, IS THE sha256 OF THE DUMP (.gsa) THAT Qxb6600114aProg.lean LOADS. Nothing in Lean hashes anything: it is a label: what it is worth is what the hold of that sum in a sandbox is worth. -/
noncomputable def Try.pinned : Pinned := { name := "qxb6600114a", sum := "8eccc6e009d7084c4987f502a69a3997b60e7bbfe3b5660c02d7ef6b27d8d026", checked := Try.checked }
namespace Rows
def none {H : Type} : Left H := { results := [], args := [] }

/-- 'zzlaws_root_b1.FnCloseWritesSizeAtOpenPlace': WHATEVER THE INPUT: true; the input reads as it did. -/
def fnCloseWritesSizeAtOpenPlaceSpec : ChangeSpec := { name := "fnCloseWritesSizeAtOpenPlace", fn := fun _ => fun
  | [d1, d2, d3, d4, d5, d6] => { results := [.lit (.bool true)], args := [d1, d2, d3, d4, d5, d6] }
  | _ => none }
def fnCloseWritesSizeAtOpenPlaceRow : OpenClaim := { program := "qxb6600114a", sum := "8eccc6e009d7084c4987f502a69a3997b60e7bbfe3b5660c02d7ef6b27d8d026", func := "example.com/ruth/ruth/zzlaws_root_b1.FnCloseWritesSizeAtOpenPlace", spec := "fnCloseWritesSizeAtOpenPlace", apart := false }
def FnCloseWritesSizeAtOpenPlaceSaid : Prop := fnCloseWritesSizeAtOpenPlaceRow.holds Try.pinned (OpenSpec.ofChange fnCloseWritesSizeAtOpenPlaceSpec)

/-- ITS FALSE NEIGHBOUR: 'it returns false'. Refute it at one input. -/
def fnCloseWritesSizeAtOpenPlaceWrong : ChangeSpec := { name := "fnCloseWritesSizeAtOpenPlace", fn := fun _ => fun
  | [d1, d2, d3, d4, d5, d6] => { results := [.lit (.bool false)], args := [d1, d2, d3, d4, d5, d6] }
  | _ => none }
def FnCloseWritesSizeAtOpenPlaceWrongFalsely : Prop := fnCloseWritesSizeAtOpenPlaceRow.holds Try.pinned (OpenSpec.ofChange fnCloseWritesSizeAtOpenPlaceWrong)

/-- 'zzlaws_root_b1.FnEncodeShortRoundTrip': WHATEVER THE INPUT: true; the input reads as it did. -/
def fnEncodeShortRoundTripSpec : ChangeSpec := { name := "fnEncodeShortRoundTrip", fn := fun _ => fun
  | [d1, d2, d3, d4, d5] => { results := [.lit (.bool true)], args := [d1, d2, d3, d4, d5] }
  | _ => none }
def fnEncodeShortRoundTripRow : OpenClaim := { program := "qxb6600114a", sum := "8eccc6e009d7084c4987f502a69a3997b60e7bbfe3b5660c02d7ef6b27d8d026", func := "example.com/ruth/ruth/zzlaws_root_b1.FnEncodeShortRoundTrip", spec := "fnEncodeShortRoundTrip", apart := false }
def FnEncodeShortRoundTripSaid : Prop := fnEncodeShortRoundTripRow.holds Try.pinned (OpenSpec.ofChange fnEncodeShortRoundTripSpec)

/-- ITS FALSE NEIGHBOUR: 'it returns false'. Refute it at one input. -/
def fnEncodeShortRoundTripWrong : ChangeSpec := { name := "fnEncodeShortRoundTrip", fn := fun _ => fun
  | [d1, d2, d3, d4, d5] => { results := [.lit (.bool false)], args := [d1, d2, d3, d4, d5] }
  | _ => none }
def FnEncodeShortRoundTripWrongFalsely : Prop := fnEncodeShortRoundTripRow.holds Try.pinned (OpenSpec.ofChange fnEncodeShortRoundTripWrong)

/-- 'zzlaws_root_b1.FnEncodeShortTakesLongestFittingRun': WHATEVER THE INPUT: true; the input reads as it did. -/
def fnEncodeShortTakesLongestFittingRunSpec : ChangeSpec := { name := "fnEncodeShortTakesLongestFittingRun", fn := fun _ => fun
  | [d1, d2, d3, d4, d5] => { results := [.lit (.bool true)], args := [d1, d2, d3, d4, d5] }
  | _ => none }
def fnEncodeShortTakesLongestFittingRunRow : OpenClaim := { program := "qxb6600114a", sum := "8eccc6e009d7084c4987f502a69a3997b60e7bbfe3b5660c02d7ef6b27d8d026", func := "example.com/ruth/ruth/zzlaws_root_b1.FnEncodeShortTakesLongestFittingRun", spec := "fnEncodeShortTakesLongestFittingRun", apart := false }
def FnEncodeShortTakesLongestFittingRunSaid : Prop := fnEncodeShortTakesLongestFittingRunRow.holds Try.pinned (OpenSpec.ofChange fnEncodeShortTakesLongestFittingRunSpec)

/-- ITS FALSE NEIGHBOUR: 'it returns false'. Refute it at one input. -/
def fnEncodeShortTakesLongestFittingRunWrong : ChangeSpec := { name := "fnEncodeShortTakesLongestFittingRun", fn := fun _ => fun
  | [d1, d2, d3, d4, d5] => { results := [.lit (.bool false)], args := [d1, d2, d3, d4, d5] }
  | _ => none }
def FnEncodeShortTakesLongestFittingRunWrongFalsely : Prop := fnEncodeShortTakesLongestFittingRunRow.holds Try.pinned (OpenSpec.ofChange fnEncodeShortTakesLongestFittingRunWrong)

/-- 'zzlaws_root_b1.FnDecodeShortResumes': WHATEVER THE INPUT: true; the input reads as it did. -/
def fnDecodeShortResumesSpec : ChangeSpec := { name := "fnDecodeShortResumes", fn := fun _ => fun
  | [d1, d2, d3, d4, d5] => { results := [.lit (.bool true)], args := [d1, d2, d3, d4, d5] }
  | _ => none }
def fnDecodeShortResumesRow : OpenClaim := { program := "qxb6600114a", sum := "8eccc6e009d7084c4987f502a69a3997b60e7bbfe3b5660c02d7ef6b27d8d026", func := "example.com/ruth/ruth/zzlaws_root_b1.FnDecodeShortResumes", spec := "fnDecodeShortResumes", apart := false }
def FnDecodeShortResumesSaid : Prop := fnDecodeShortResumesRow.holds Try.pinned (OpenSpec.ofChange fnDecodeShortResumesSpec)

/-- ITS FALSE NEIGHBOUR: 'it returns false'. Refute it at one input. -/
def fnDecodeShortResumesWrong : ChangeSpec := { name := "fnDecodeShortResumes", fn := fun _ => fun
  | [d1, d2, d3, d4, d5] => { results := [.lit (.bool false)], args := [d1, d2, d3, d4, d5] }
  | _ => none }
def FnDecodeShortResumesWrongFalsely : Prop := fnDecodeShortResumesRow.holds Try.pinned (OpenSpec.ofChange fnDecodeShortResumesWrong)

/-- 'zzlaws_root_b1.FnDecodeShortStopsOnlyWhereItMust': WHATEVER THE INPUT: true; the input reads as it did. -/
def fnDecodeShortStopsOnlyWhereItMustSpec : ChangeSpec := { name := "fnDecodeShortStopsOnlyWhereItMust", fn := fun _ => fun
  | [d1, d2, d3, d4, d5] => { results := [.lit (.bool true)], args := [d1, d2, d3, d4, d5] }
  | _ => none }
def fnDecodeShortStopsOnlyWhereItMustRow : OpenClaim := { program := "qxb6600114a", sum := "8eccc6e009d7084c4987f502a69a3997b60e7bbfe3b5660c02d7ef6b27d8d026", func := "example.com/ruth/ruth/zzlaws_root_b1.FnDecodeShortStopsOnlyWhereItMust", spec := "fnDecodeShortStopsOnlyWhereItMust", apart := false }
def FnDecodeShortStopsOnlyWhereItMustSaid : Prop := fnDecodeShortStopsOnlyWhereItMustRow.holds Try.pinned (OpenSpec.ofChange fnDecodeShortStopsOnlyWhereItMustSpec)

/-- ITS FALSE NEIGHBOUR: 'it returns false'. Refute it at one input. -/
def fnDecodeShortStopsOnlyWhereItMustWrong : ChangeSpec := { name := "fnDecodeShortStopsOnlyWhereItMust", fn := fun _ => fun
  | [d1, d2, d3, d4, d5] => { results := [.lit (.bool false)], args := [d1, d2, d3, d4, d5] }
  | _ => none }
def FnDecodeShortStopsOnlyWhereItMustWrongFalsely : Prop := fnDecodeShortStopsOnlyWhereItMustRow.holds Try.pinned (OpenSpec.ofChange fnDecodeShortStopsOnlyWhereItMustWrong)

/-- 'zzlaws_root_b1.FnDecodeShortThenEncodeShortGivesBack': WHATEVER THE INPUT: true; the input reads as it did. -/
def fnDecodeShortThenEncodeShortGivesBackSpec : ChangeSpec := { name := "fnDecodeShortThenEncodeShortGivesBack", fn := fun _ => fun
  | [d1, d2, d3] => { results := [.lit (.bool true)], args := [d1, d2, d3] }
  | _ => none }
def fnDecodeShortThenEncodeShortGivesBackRow : OpenClaim := { program := "qxb6600114a", sum := "8eccc6e009d7084c4987f502a69a3997b60e7bbfe3b5660c02d7ef6b27d8d026", func := "example.com/ruth/ruth/zzlaws_root_b1.FnDecodeShortThenEncodeShortGivesBack", spec := "fnDecodeShortThenEncodeShortGivesBack", apart := false }
def FnDecodeShortThenEncodeShortGivesBackSaid : Prop := fnDecodeShortThenEncodeShortGivesBackRow.holds Try.pinned (OpenSpec.ofChange fnDecodeShortThenEncodeShortGivesBackSpec)

/-- ITS FALSE NEIGHBOUR: 'it returns false'. Refute it at one input. -/
def fnDecodeShortThenEncodeShortGivesBackWrong : ChangeSpec := { name := "fnDecodeShortThenEncodeShortGivesBack", fn := fun _ => fun
  | [d1, d2, d3] => { results := [.lit (.bool false)], args := [d1, d2, d3] }
  | _ => none }
def FnDecodeShortThenEncodeShortGivesBackWrongFalsely : Prop := fnDecodeShortThenEncodeShortGivesBackRow.holds Try.pinned (OpenSpec.ofChange fnDecodeShortThenEncodeShortGivesBackWrong)

/-- 'zzlaws_root_b1.FnCloseLetsOpenNodeEncodeShort': WHATEVER THE INPUT: true; the input reads as it did. -/
def fnCloseLetsOpenNodeEncodeShortSpec : ChangeSpec := { name := "fnCloseLetsOpenNodeEncodeShort", fn := fun _ => fun
  | [d1, d2, d3, d4] => { results := [.lit (.bool true)], args := [d1, d2, d3, d4] }
  | _ => none }
def fnCloseLetsOpenNodeEncodeShortRow : OpenClaim := { program := "qxb6600114a", sum := "8eccc6e009d7084c4987f502a69a3997b60e7bbfe3b5660c02d7ef6b27d8d026", func := "example.com/ruth/ruth/zzlaws_root_b1.FnCloseLetsOpenNodeEncodeShort", spec := "fnCloseLetsOpenNodeEncodeShort", apart := false }
def FnCloseLetsOpenNodeEncodeShortSaid : Prop := fnCloseLetsOpenNodeEncodeShortRow.holds Try.pinned (OpenSpec.ofChange fnCloseLetsOpenNodeEncodeShortSpec)

/-- ITS FALSE NEIGHBOUR: 'it returns false'. Refute it at one input. -/
def fnCloseLetsOpenNodeEncodeShortWrong : ChangeSpec := { name := "fnCloseLetsOpenNodeEncodeShort", fn := fun _ => fun
  | [d1, d2, d3, d4] => { results := [.lit (.bool false)], args := [d1, d2, d3, d4] }
  | _ => none }
def FnCloseLetsOpenNodeEncodeShortWrongFalsely : Prop := fnCloseLetsOpenNodeEncodeShortRow.holds Try.pinned (OpenSpec.ofChange fnCloseLetsOpenNodeEncodeShortWrong)

end Rows
end Go.Proofs.Qxb6600114a

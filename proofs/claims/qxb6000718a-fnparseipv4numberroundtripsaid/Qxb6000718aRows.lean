/-
  No cell of these rows narrows 'for every input' (looked for: loops, veiled, ifaces, maps, wideKeys, modest, calm, conditions, laid).
  DERIVED. THE GIVEN ROWS OF THIS SEAT. 3 by the template 'for every input the law returns true; each argument reads behind the call as it read before'; 0 by the template 'total and deterministic' (their statements: Qxb6000718aTotals.lean).
  GIVEN WITH THE SEED: the statements are not yours to turn. If you find one false, say at which input.
  Laid BY PROGRAM, IN A SANDBOX (cutbox-rows.mjs): the forced cells as the released guide's own fill.sh prints them over the translation 7b5496831ca389cb… (all of the seat's roots in one cut). By AI agents, Wed Nov 11 2026. No macro, syntax, notation, axiom, sorry.
-/
import Derived.Test.Qxb6000718aChecked
import GoSem.Claim
import GoSem.ClaimJoined
import GoSem.ClaimMapViews
import Derived.JoinedTies
import Derived.KernelRfl
namespace Go.Proofs.Qxb6000718a
/- THE CELL 'sum', in the pinned program and in every row, IS THE sha256 OF THE DUMP (.gsa) THAT Qxb6000718aProg.lean LOADS. Nothing in Lean hashes anything: it is a label: what it is worth is what the hold of that sum in a sandbox is worth. -/
noncomputable def Try.pinned : Pinned := { name := "qxb6000718a", sum := "7b5496831ca389cb30c554261759ad5999a87f1d5479c0c725d24585c4ac00f6", checked := Try.checked }
namespace Rows
def none {H : Type} : Left H := { results := [], args := [] }

/-- 'zzlaws_internal_urls_b1.FnParseIPv4NumberRoundTrip': WHATEVER THE INPUT: true; the input reads as it did. -/
def fnParseIPv4NumberRoundTripSpec : ChangeSpec := { name := "fnParseIPv4NumberRoundTrip", fn := fun _ => fun
  | [d1, d2, d3, d4, d5] => { results := [.lit (.bool true)], args := [d1, d2, d3, d4, d5] }
  | _ => none }
def fnParseIPv4NumberRoundTripRow : OpenClaim := { program := "qxb6000718a", sum := "7b5496831ca389cb30c554261759ad5999a87f1d5479c0c725d24585c4ac00f6", func := "example.com/toolbridge/toolbridge/zzlaws_internal_urls_b1.FnParseIPv4NumberRoundTrip", spec := "fnParseIPv4NumberRoundTrip", apart := false }
def FnParseIPv4NumberRoundTripSaid : Prop := fnParseIPv4NumberRoundTripRow.holds Try.pinned (OpenSpec.ofChange fnParseIPv4NumberRoundTripSpec)

/-- ITS FALSE NEIGHBOUR: 'it returns false'. Refute it at one input. -/
def fnParseIPv4NumberRoundTripWrong : ChangeSpec := { name := "fnParseIPv4NumberRoundTrip", fn := fun _ => fun
  | [d1, d2, d3, d4, d5] => { results := [.lit (.bool false)], args := [d1, d2, d3, d4, d5] }
  | _ => none }
def FnParseIPv4NumberRoundTripWrongFalsely : Prop := fnParseIPv4NumberRoundTripRow.holds Try.pinned (OpenSpec.ofChange fnParseIPv4NumberRoundTripWrong)

/-- 'zzlaws_internal_urls_b1.FnParseIPv4NumberSaturates': WHATEVER THE INPUT: true; the input reads as it did. -/
def fnParseIPv4NumberSaturatesSpec : ChangeSpec := { name := "fnParseIPv4NumberSaturates", fn := fun _ => fun
  | [d1, d2, d3, d4, d5] => { results := [.lit (.bool true)], args := [d1, d2, d3, d4, d5] }
  | _ => none }
def fnParseIPv4NumberSaturatesRow : OpenClaim := { program := "qxb6000718a", sum := "7b5496831ca389cb30c554261759ad5999a87f1d5479c0c725d24585c4ac00f6", func := "example.com/toolbridge/toolbridge/zzlaws_internal_urls_b1.FnParseIPv4NumberSaturates", spec := "fnParseIPv4NumberSaturates", apart := false }
def FnParseIPv4NumberSaturatesSaid : Prop := fnParseIPv4NumberSaturatesRow.holds Try.pinned (OpenSpec.ofChange fnParseIPv4NumberSaturatesSpec)

/-- ITS FALSE NEIGHBOUR: 'it returns false'. Refute it at one input. -/
def fnParseIPv4NumberSaturatesWrong : ChangeSpec := { name := "fnParseIPv4NumberSaturates", fn := fun _ => fun
  | [d1, d2, d3, d4, d5] => { results := [.lit (.bool false)], args := [d1, d2, d3, d4, d5] }
  | _ => none }
def FnParseIPv4NumberSaturatesWrongFalsely : Prop := fnParseIPv4NumberSaturatesRow.holds Try.pinned (OpenSpec.ofChange fnParseIPv4NumberSaturatesWrong)

/-- 'zzlaws_internal_urls_b1.FnParseIPv4NumberPaddingCaseAndRange': WHATEVER THE INPUT: true; the input reads as it did. -/
def fnParseIPv4NumberPaddingCaseAndRangeSpec : ChangeSpec := { name := "fnParseIPv4NumberPaddingCaseAndRange", fn := fun _ => fun
  | [d] => { results := [.lit (.bool true)], args := [d] }
  | _ => none }
def fnParseIPv4NumberPaddingCaseAndRangeRow : OpenClaim := { program := "qxb6000718a", sum := "7b5496831ca389cb30c554261759ad5999a87f1d5479c0c725d24585c4ac00f6", func := "example.com/toolbridge/toolbridge/zzlaws_internal_urls_b1.FnParseIPv4NumberPaddingCaseAndRange", spec := "fnParseIPv4NumberPaddingCaseAndRange", apart := false }
def FnParseIPv4NumberPaddingCaseAndRangeSaid : Prop := fnParseIPv4NumberPaddingCaseAndRangeRow.holds Try.pinned (OpenSpec.ofChange fnParseIPv4NumberPaddingCaseAndRangeSpec)

/-- ITS FALSE NEIGHBOUR: 'it returns false'. Refute it at one input. -/
def fnParseIPv4NumberPaddingCaseAndRangeWrong : ChangeSpec := { name := "fnParseIPv4NumberPaddingCaseAndRange", fn := fun _ => fun
  | [d] => { results := [.lit (.bool false)], args := [d] }
  | _ => none }
def FnParseIPv4NumberPaddingCaseAndRangeWrongFalsely : Prop := fnParseIPv4NumberPaddingCaseAndRangeRow.holds Try.pinned (OpenSpec.ofChange fnParseIPv4NumberPaddingCaseAndRangeWrong)

end Rows
end Go.Proofs.Qxb6000718a

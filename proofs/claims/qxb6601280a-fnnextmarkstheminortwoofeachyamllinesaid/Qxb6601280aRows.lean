/-
  No cell of these rows narrows 'for every input' (looked for: loops, veiled, ifaces, maps, wideKeys, modest, calm, conditions, laid).
  DERIVED. THE GIVEN ROWS OF THIS SEAT. 6 by the template 'for every input the law returns true; each argument reads behind the call as it read before'; 0 by the template 'total and deterministic' (their statements: Qxb6601280aTotals.lean).
  GIVEN WITH THE SEED: the statements are not yours to turn. If you find one false, say at which input.
  Laid BY PROGRAM, IN A SANDBOX (cutbox-rows.mjs): the forced cells as the released guide's own fill.sh prints them over the translation 4d83a4ca7c55ede3… (all of the seat's roots in one cut). By AI agents, Wed Nov 11 2026. No macro, syntax, notation, axiom, sorry.
-/
import Derived.Test.Qxb6601280aChecked
import GoSem.Claim
import GoSem.ClaimJoined
import GoSem.ClaimMapViews
import Derived.JoinedTies
import Derived.KernelRfl
namespace Go.Proofs.Qxb6601280a
/- THE CELL 'sum', in the pinned program and in every row, IS THE sha256 OF THE DUMP (.gsa) THAT Qxb6601280aProg.lean LOADS. Nothing in Lean hashes anything: it is a label: what it is worth is what the hold of that sum in a sandbox is worth. -/
noncomputable def Try.pinned : Pinned := { name := "qxb6601280a", sum := "4d83a4ca7c55ede35213d34e1b6c50fc6e57d1068d43ad7978c28023fa77add2", checked := Try.checked }
namespace Rows
def none {H : Type} : Left H := { results := [], args := [] }

/-- 'zzlaws_yamljson_b1.FnNextMarksTheMinorTwoOfEachYAMLLine': WHATEVER THE INPUT: true; the input reads as it did. -/
def fnNextMarksTheMinorTwoOfEachYAMLLineSpec : ChangeSpec := { name := "fnNextMarksTheMinorTwoOfEachYAMLLine", fn := fun _ => fun
  | [d] => { results := [.lit (.bool true)], args := [d] }
  | _ => none }
def fnNextMarksTheMinorTwoOfEachYAMLLineRow : OpenClaim := { program := "qxb6601280a", sum := "4d83a4ca7c55ede35213d34e1b6c50fc6e57d1068d43ad7978c28023fa77add2", func := "example.com/gleaner/gleaner/zzlaws_yamljson_b1.FnNextMarksTheMinorTwoOfEachYAMLLine", spec := "fnNextMarksTheMinorTwoOfEachYAMLLine", apart := false }
def FnNextMarksTheMinorTwoOfEachYAMLLineSaid : Prop := fnNextMarksTheMinorTwoOfEachYAMLLineRow.holds Try.pinned (OpenSpec.ofChange fnNextMarksTheMinorTwoOfEachYAMLLineSpec)

/-- ITS FALSE NEIGHBOUR: 'it returns false'. Refute it at one input. -/
def fnNextMarksTheMinorTwoOfEachYAMLLineWrong : ChangeSpec := { name := "fnNextMarksTheMinorTwoOfEachYAMLLine", fn := fun _ => fun
  | [d] => { results := [.lit (.bool false)], args := [d] }
  | _ => none }
def FnNextMarksTheMinorTwoOfEachYAMLLineWrongFalsely : Prop := fnNextMarksTheMinorTwoOfEachYAMLLineRow.holds Try.pinned (OpenSpec.ofChange fnNextMarksTheMinorTwoOfEachYAMLLineWrong)

/-- 'zzlaws_yamljson_b1.FnNextKeepsItsLineInvariants': WHATEVER THE INPUT: true; the input reads as it did. -/
def fnNextKeepsItsLineInvariantsSpec : ChangeSpec := { name := "fnNextKeepsItsLineInvariants", fn := fun _ => fun
  | [d1, d2, d3, d4] => { results := [.lit (.bool true)], args := [d1, d2, d3, d4] }
  | _ => none }
def fnNextKeepsItsLineInvariantsRow : OpenClaim := { program := "qxb6601280a", sum := "4d83a4ca7c55ede35213d34e1b6c50fc6e57d1068d43ad7978c28023fa77add2", func := "example.com/gleaner/gleaner/zzlaws_yamljson_b1.FnNextKeepsItsLineInvariants", spec := "fnNextKeepsItsLineInvariants", apart := false }
def FnNextKeepsItsLineInvariantsSaid : Prop := fnNextKeepsItsLineInvariantsRow.holds Try.pinned (OpenSpec.ofChange fnNextKeepsItsLineInvariantsSpec)

/-- ITS FALSE NEIGHBOUR: 'it returns false'. Refute it at one input. -/
def fnNextKeepsItsLineInvariantsWrong : ChangeSpec := { name := "fnNextKeepsItsLineInvariants", fn := fun _ => fun
  | [d1, d2, d3, d4] => { results := [.lit (.bool false)], args := [d1, d2, d3, d4] }
  | _ => none }
def FnNextKeepsItsLineInvariantsWrongFalsely : Prop := fnNextKeepsItsLineInvariantsRow.holds Try.pinned (OpenSpec.ofChange fnNextKeepsItsLineInvariantsWrong)

/-- 'zzlaws_yamljson_b1.FnStartLineOpensALineAsTheLineModelSays': WHATEVER THE INPUT: true; the input reads as it did. -/
def fnStartLineOpensALineAsTheLineModelSaysSpec : ChangeSpec := { name := "fnStartLineOpensALineAsTheLineModelSays", fn := fun _ => fun
  | [d1, d2, d3, d4, d5] => { results := [.lit (.bool true)], args := [d1, d2, d3, d4, d5] }
  | _ => none }
def fnStartLineOpensALineAsTheLineModelSaysRow : OpenClaim := { program := "qxb6601280a", sum := "4d83a4ca7c55ede35213d34e1b6c50fc6e57d1068d43ad7978c28023fa77add2", func := "example.com/gleaner/gleaner/zzlaws_yamljson_b1.FnStartLineOpensALineAsTheLineModelSays", spec := "fnStartLineOpensALineAsTheLineModelSays", apart := false }
def FnStartLineOpensALineAsTheLineModelSaysSaid : Prop := fnStartLineOpensALineAsTheLineModelSaysRow.holds Try.pinned (OpenSpec.ofChange fnStartLineOpensALineAsTheLineModelSaysSpec)

/-- ITS FALSE NEIGHBOUR: 'it returns false'. Refute it at one input. -/
def fnStartLineOpensALineAsTheLineModelSaysWrong : ChangeSpec := { name := "fnStartLineOpensALineAsTheLineModelSays", fn := fun _ => fun
  | [d1, d2, d3, d4, d5] => { results := [.lit (.bool false)], args := [d1, d2, d3, d4, d5] }
  | _ => none }
def FnStartLineOpensALineAsTheLineModelSaysWrongFalsely : Prop := fnStartLineOpensALineAsTheLineModelSaysRow.holds Try.pinned (OpenSpec.ofChange fnStartLineOpensALineAsTheLineModelSaysWrong)

/-- 'zzlaws_yamljson_b1.FnParseFloatReadsExactlyTheCoreSchemaFloats': WHATEVER THE INPUT: true; the input reads as it did. -/
def fnParseFloatReadsExactlyTheCoreSchemaFloatsSpec : ChangeSpec := { name := "fnParseFloatReadsExactlyTheCoreSchemaFloats", fn := fun _ => fun
  | [d] => { results := [.lit (.bool true)], args := [d] }
  | _ => none }
def fnParseFloatReadsExactlyTheCoreSchemaFloatsRow : OpenClaim := { program := "qxb6601280a", sum := "4d83a4ca7c55ede35213d34e1b6c50fc6e57d1068d43ad7978c28023fa77add2", func := "example.com/gleaner/gleaner/zzlaws_yamljson_b1.FnParseFloatReadsExactlyTheCoreSchemaFloats", spec := "fnParseFloatReadsExactlyTheCoreSchemaFloats", apart := false }
def FnParseFloatReadsExactlyTheCoreSchemaFloatsSaid : Prop := fnParseFloatReadsExactlyTheCoreSchemaFloatsRow.holds Try.pinned (OpenSpec.ofChange fnParseFloatReadsExactlyTheCoreSchemaFloatsSpec)

/-- ITS FALSE NEIGHBOUR: 'it returns false'. Refute it at one input. -/
def fnParseFloatReadsExactlyTheCoreSchemaFloatsWrong : ChangeSpec := { name := "fnParseFloatReadsExactlyTheCoreSchemaFloats", fn := fun _ => fun
  | [d] => { results := [.lit (.bool false)], args := [d] }
  | _ => none }
def FnParseFloatReadsExactlyTheCoreSchemaFloatsWrongFalsely : Prop := fnParseFloatReadsExactlyTheCoreSchemaFloatsRow.holds Try.pinned (OpenSpec.ofChange fnParseFloatReadsExactlyTheCoreSchemaFloatsWrong)

/-- 'zzlaws_yamljson_b1.FnParseFloatSignOnlySetsNegative': WHATEVER THE INPUT: true; the input reads as it did. -/
def fnParseFloatSignOnlySetsNegativeSpec : ChangeSpec := { name := "fnParseFloatSignOnlySetsNegative", fn := fun _ => fun
  | [d] => { results := [.lit (.bool true)], args := [d] }
  | _ => none }
def fnParseFloatSignOnlySetsNegativeRow : OpenClaim := { program := "qxb6601280a", sum := "4d83a4ca7c55ede35213d34e1b6c50fc6e57d1068d43ad7978c28023fa77add2", func := "example.com/gleaner/gleaner/zzlaws_yamljson_b1.FnParseFloatSignOnlySetsNegative", spec := "fnParseFloatSignOnlySetsNegative", apart := false }
def FnParseFloatSignOnlySetsNegativeSaid : Prop := fnParseFloatSignOnlySetsNegativeRow.holds Try.pinned (OpenSpec.ofChange fnParseFloatSignOnlySetsNegativeSpec)

/-- ITS FALSE NEIGHBOUR: 'it returns false'. Refute it at one input. -/
def fnParseFloatSignOnlySetsNegativeWrong : ChangeSpec := { name := "fnParseFloatSignOnlySetsNegative", fn := fun _ => fun
  | [d] => { results := [.lit (.bool false)], args := [d] }
  | _ => none }
def FnParseFloatSignOnlySetsNegativeWrongFalsely : Prop := fnParseFloatSignOnlySetsNegativeRow.holds Try.pinned (OpenSpec.ofChange fnParseFloatSignOnlySetsNegativeWrong)

/-- 'zzlaws_yamljson_b1.FnParseFloatReadsBackItsCanonicalText': WHATEVER THE INPUT: true; the input reads as it did. -/
def fnParseFloatReadsBackItsCanonicalTextSpec : ChangeSpec := { name := "fnParseFloatReadsBackItsCanonicalText", fn := fun _ => fun
  | [d] => { results := [.lit (.bool true)], args := [d] }
  | _ => none }
def fnParseFloatReadsBackItsCanonicalTextRow : OpenClaim := { program := "qxb6601280a", sum := "4d83a4ca7c55ede35213d34e1b6c50fc6e57d1068d43ad7978c28023fa77add2", func := "example.com/gleaner/gleaner/zzlaws_yamljson_b1.FnParseFloatReadsBackItsCanonicalText", spec := "fnParseFloatReadsBackItsCanonicalText", apart := false }
def FnParseFloatReadsBackItsCanonicalTextSaid : Prop := fnParseFloatReadsBackItsCanonicalTextRow.holds Try.pinned (OpenSpec.ofChange fnParseFloatReadsBackItsCanonicalTextSpec)

/-- ITS FALSE NEIGHBOUR: 'it returns false'. Refute it at one input. -/
def fnParseFloatReadsBackItsCanonicalTextWrong : ChangeSpec := { name := "fnParseFloatReadsBackItsCanonicalText", fn := fun _ => fun
  | [d] => { results := [.lit (.bool false)], args := [d] }
  | _ => none }
def FnParseFloatReadsBackItsCanonicalTextWrongFalsely : Prop := fnParseFloatReadsBackItsCanonicalTextRow.holds Try.pinned (OpenSpec.ofChange fnParseFloatReadsBackItsCanonicalTextWrong)

end Rows
end Go.Proofs.Qxb6601280a

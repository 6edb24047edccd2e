/-
  No cell of these rows narrows 'for every input' (looked for: loops, veiled, ifaces, maps, wideKeys, modest, calm, conditions, laid).
  DERIVED. THE GIVEN ROWS OF THIS SEAT. 4 by the template 'for every input the law returns true; each argument reads behind the call as it read before'; 0 by the template 'total and deterministic' (their statements: Qxb6601739aTotals.lean).
  GIVEN WITH THE SEED: the statements are not yours to turn. If you find one false, say at which input.
  Laid BY PROGRAM, IN A SANDBOX (cutbox-rows.mjs): the forced cells as the released guide's own fill.sh prints them over the translation d30da10401671491… (all of the seat's roots in one cut). By AI agents, Wed Nov 11 2026. No macro, syntax, notation, axiom, sorry.
-/
import Derived.Test.Qxb6601739aChecked
import GoSem.Claim
import GoSem.ClaimJoined
import GoSem.ClaimMapViews
import Derived.JoinedTies
import Derived.KernelRfl
namespace Go.Proofs.Qxb6601739a
/- THE CELL 'sum', in the pinned program and in every row, IS THE sha256 OF THE DUMP (.gsa) THAT Qxb6601739aProg.lean LOADS. Nothing in Lean hashes anything: it is a label: what it is worth is what the hold of that sum in a sandbox is worth. -/
noncomputable def Try.pinned : Pinned := { name := "qxb6601739a", sum := "d30da10401671491392dc34c2aa81b24eaec3404b4288e289a79c209f03daee4", checked := Try.checked }
namespace Rows
def none {H : Type} : Left H := { results := [], args := [] }

/-- 'zzlaws_engine_b1.FnNumberLengthIsLongestNumberPrefix': WHATEVER THE INPUT: true; the input reads as it did. -/
def fnNumberLengthIsLongestNumberPrefixSpec : ChangeSpec := { name := "fnNumberLengthIsLongestNumberPrefix", fn := fun _ => fun
  | [d] => { results := [.lit (.bool true)], args := [d] }
  | _ => none }
def fnNumberLengthIsLongestNumberPrefixRow : OpenClaim := { program := "qxb6601739a", sum := "d30da10401671491392dc34c2aa81b24eaec3404b4288e289a79c209f03daee4", func := "example.com/gapwise/gapwise/zzlaws_engine_b1.FnNumberLengthIsLongestNumberPrefix", spec := "fnNumberLengthIsLongestNumberPrefix", apart := false }
def FnNumberLengthIsLongestNumberPrefixSaid : Prop := fnNumberLengthIsLongestNumberPrefixRow.holds Try.pinned (OpenSpec.ofChange fnNumberLengthIsLongestNumberPrefixSpec)

/-- ITS FALSE NEIGHBOUR: 'it returns false'. Refute it at one input. -/
def fnNumberLengthIsLongestNumberPrefixWrong : ChangeSpec := { name := "fnNumberLengthIsLongestNumberPrefix", fn := fun _ => fun
  | [d] => { results := [.lit (.bool false)], args := [d] }
  | _ => none }
def FnNumberLengthIsLongestNumberPrefixWrongFalsely : Prop := fnNumberLengthIsLongestNumberPrefixRow.holds Try.pinned (OpenSpec.ofChange fnNumberLengthIsLongestNumberPrefixWrong)

/-- 'zzlaws_engine_b1.FnNumberLengthKeepsUnderCut': WHATEVER THE INPUT: true; the input reads as it did. -/
def fnNumberLengthKeepsUnderCutSpec : ChangeSpec := { name := "fnNumberLengthKeepsUnderCut", fn := fun _ => fun
  | [d1, d2] => { results := [.lit (.bool true)], args := [d1, d2] }
  | _ => none }
def fnNumberLengthKeepsUnderCutRow : OpenClaim := { program := "qxb6601739a", sum := "d30da10401671491392dc34c2aa81b24eaec3404b4288e289a79c209f03daee4", func := "example.com/gapwise/gapwise/zzlaws_engine_b1.FnNumberLengthKeepsUnderCut", spec := "fnNumberLengthKeepsUnderCut", apart := false }
def FnNumberLengthKeepsUnderCutSaid : Prop := fnNumberLengthKeepsUnderCutRow.holds Try.pinned (OpenSpec.ofChange fnNumberLengthKeepsUnderCutSpec)

/-- ITS FALSE NEIGHBOUR: 'it returns false'. Refute it at one input. -/
def fnNumberLengthKeepsUnderCutWrong : ChangeSpec := { name := "fnNumberLengthKeepsUnderCut", fn := fun _ => fun
  | [d1, d2] => { results := [.lit (.bool false)], args := [d1, d2] }
  | _ => none }
def FnNumberLengthKeepsUnderCutWrongFalsely : Prop := fnNumberLengthKeepsUnderCutRow.holds Try.pinned (OpenSpec.ofChange fnNumberLengthKeepsUnderCutWrong)

/-- 'zzlaws_engine_b1.FnNumberLengthSignAddsOne': WHATEVER THE INPUT: true; the input reads as it did. -/
def fnNumberLengthSignAddsOneSpec : ChangeSpec := { name := "fnNumberLengthSignAddsOne", fn := fun _ => fun
  | [d1, d2] => { results := [.lit (.bool true)], args := [d1, d2] }
  | _ => none }
def fnNumberLengthSignAddsOneRow : OpenClaim := { program := "qxb6601739a", sum := "d30da10401671491392dc34c2aa81b24eaec3404b4288e289a79c209f03daee4", func := "example.com/gapwise/gapwise/zzlaws_engine_b1.FnNumberLengthSignAddsOne", spec := "fnNumberLengthSignAddsOne", apart := false }
def FnNumberLengthSignAddsOneSaid : Prop := fnNumberLengthSignAddsOneRow.holds Try.pinned (OpenSpec.ofChange fnNumberLengthSignAddsOneSpec)

/-- ITS FALSE NEIGHBOUR: 'it returns false'. Refute it at one input. -/
def fnNumberLengthSignAddsOneWrong : ChangeSpec := { name := "fnNumberLengthSignAddsOne", fn := fun _ => fun
  | [d1, d2] => { results := [.lit (.bool false)], args := [d1, d2] }
  | _ => none }
def FnNumberLengthSignAddsOneWrongFalsely : Prop := fnNumberLengthSignAddsOneRow.holds Try.pinned (OpenSpec.ofChange fnNumberLengthSignAddsOneWrong)

/-- 'zzlaws_engine_b1.FnComparisonRangesMeetAtTheValue': WHATEVER THE INPUT: true; the input reads as it did. -/
def fnComparisonRangesMeetAtTheValueSpec : ChangeSpec := { name := "fnComparisonRangesMeetAtTheValue", fn := fun _ => fun
  | [d1, d2] => { results := [.lit (.bool true)], args := [d1, d2] }
  | _ => none }
def fnComparisonRangesMeetAtTheValueRow : OpenClaim := { program := "qxb6601739a", sum := "d30da10401671491392dc34c2aa81b24eaec3404b4288e289a79c209f03daee4", func := "example.com/gapwise/gapwise/zzlaws_engine_b1.FnComparisonRangesMeetAtTheValue", spec := "fnComparisonRangesMeetAtTheValue", apart := false }
def FnComparisonRangesMeetAtTheValueSaid : Prop := fnComparisonRangesMeetAtTheValueRow.holds Try.pinned (OpenSpec.ofChange fnComparisonRangesMeetAtTheValueSpec)

/-- ITS FALSE NEIGHBOUR: 'it returns false'. Refute it at one input. -/
def fnComparisonRangesMeetAtTheValueWrong : ChangeSpec := { name := "fnComparisonRangesMeetAtTheValue", fn := fun _ => fun
  | [d1, d2] => { results := [.lit (.bool false)], args := [d1, d2] }
  | _ => none }
def FnComparisonRangesMeetAtTheValueWrongFalsely : Prop := fnComparisonRangesMeetAtTheValueRow.holds Try.pinned (OpenSpec.ofChange fnComparisonRangesMeetAtTheValueWrong)

end Rows
end Go.Proofs.Qxb6601739a

/-
  No cell of these rows narrows 'for every input' (looked for: loops, veiled, ifaces, maps, wideKeys, modest, calm, conditions, laid).
  DERIVED. THE GIVEN ROWS OF THIS SEAT. 6 by the template 'for every input the law returns true; each argument reads behind the call as it read before'; 0 by the template 'total and deterministic' (their statements: Qxb6601852aTotals.lean).
  GIVEN WITH THE SEED: the statements are not yours to turn. If you find one false, say at which input.
  Laid BY PROGRAM, IN A SANDBOX (cutbox-rows.mjs): the forced cells as the released guide's own fill.sh prints them over the translation edb646eb58626eaa… (all of the seat's roots in one cut). By AI agents, Wed Nov 11 2026. No macro, syntax, notation, axiom, sorry.
-/
import Derived.Test.Qxb6601852aChecked
import GoSem.Claim
import GoSem.ClaimJoined
import GoSem.ClaimMapViews
import Derived.JoinedTies
import Derived.KernelRfl
namespace Go.Proofs.Qxb6601852a
/- THE CELL 'sum', in the pinned program and in every row, IS THE sha256 OF THE DUMP (.gsa) THAT Qxb6601852aProg.lean LOADS. Nothing in Lean hashes anything: it is a label: what it is worth is what the hold of that sum in a sandbox is worth. -/
noncomputable def Try.pinned : Pinned := { name := "qxb6601852a", sum := "edb646eb58626eaa8be29aa2dc4d490d760213f7d4cf910aad59007a8dfaa4ac", checked := Try.checked }
namespace Rows
def none {H : Type} : Left H := { results := [], args := [] }

/-- 'zzlaws_schedule_b1.FnOnCycleMatchesReachability': WHATEVER THE INPUT: true; the input reads as it did. -/
def fnOnCycleMatchesReachabilitySpec : ChangeSpec := { name := "fnOnCycleMatchesReachability", fn := fun _ => fun
  | [d] => { results := [.lit (.bool true)], args := [d] }
  | _ => none }
def fnOnCycleMatchesReachabilityRow : OpenClaim := { program := "qxb6601852a", sum := "edb646eb58626eaa8be29aa2dc4d490d760213f7d4cf910aad59007a8dfaa4ac", func := "example.com/quorate/quorate/zzlaws_schedule_b1.FnOnCycleMatchesReachability", spec := "fnOnCycleMatchesReachability", apart := false }
def FnOnCycleMatchesReachabilitySaid : Prop := fnOnCycleMatchesReachabilityRow.holds Try.pinned (OpenSpec.ofChange fnOnCycleMatchesReachabilitySpec)

/-- ITS FALSE NEIGHBOUR: 'it returns false'. Refute it at one input. -/
def fnOnCycleMatchesReachabilityWrong : ChangeSpec := { name := "fnOnCycleMatchesReachability", fn := fun _ => fun
  | [d] => { results := [.lit (.bool false)], args := [d] }
  | _ => none }
def FnOnCycleMatchesReachabilityWrongFalsely : Prop := fnOnCycleMatchesReachabilityRow.holds Try.pinned (OpenSpec.ofChange fnOnCycleMatchesReachabilityWrong)

/-- 'zzlaws_schedule_b1.FnOnCycleSameOnReversedEdges': WHATEVER THE INPUT: true; the input reads as it did. -/
def fnOnCycleSameOnReversedEdgesSpec : ChangeSpec := { name := "fnOnCycleSameOnReversedEdges", fn := fun _ => fun
  | [d] => { results := [.lit (.bool true)], args := [d] }
  | _ => none }
def fnOnCycleSameOnReversedEdgesRow : OpenClaim := { program := "qxb6601852a", sum := "edb646eb58626eaa8be29aa2dc4d490d760213f7d4cf910aad59007a8dfaa4ac", func := "example.com/quorate/quorate/zzlaws_schedule_b1.FnOnCycleSameOnReversedEdges", spec := "fnOnCycleSameOnReversedEdges", apart := false }
def FnOnCycleSameOnReversedEdgesSaid : Prop := fnOnCycleSameOnReversedEdgesRow.holds Try.pinned (OpenSpec.ofChange fnOnCycleSameOnReversedEdgesSpec)

/-- ITS FALSE NEIGHBOUR: 'it returns false'. Refute it at one input. -/
def fnOnCycleSameOnReversedEdgesWrong : ChangeSpec := { name := "fnOnCycleSameOnReversedEdges", fn := fun _ => fun
  | [d] => { results := [.lit (.bool false)], args := [d] }
  | _ => none }
def FnOnCycleSameOnReversedEdgesWrongFalsely : Prop := fnOnCycleSameOnReversedEdgesRow.holds Try.pinned (OpenSpec.ofChange fnOnCycleSameOnReversedEdgesWrong)

/-- 'zzlaws_schedule_b1.FnCycleThroughIsLeastShortestCycle': WHATEVER THE INPUT: true; the input reads as it did. -/
def fnCycleThroughIsLeastShortestCycleSpec : ChangeSpec := { name := "fnCycleThroughIsLeastShortestCycle", fn := fun _ => fun
  | [d] => { results := [.lit (.bool true)], args := [d] }
  | _ => none }
def fnCycleThroughIsLeastShortestCycleRow : OpenClaim := { program := "qxb6601852a", sum := "edb646eb58626eaa8be29aa2dc4d490d760213f7d4cf910aad59007a8dfaa4ac", func := "example.com/quorate/quorate/zzlaws_schedule_b1.FnCycleThroughIsLeastShortestCycle", spec := "fnCycleThroughIsLeastShortestCycle", apart := false }
def FnCycleThroughIsLeastShortestCycleSaid : Prop := fnCycleThroughIsLeastShortestCycleRow.holds Try.pinned (OpenSpec.ofChange fnCycleThroughIsLeastShortestCycleSpec)

/-- ITS FALSE NEIGHBOUR: 'it returns false'. Refute it at one input. -/
def fnCycleThroughIsLeastShortestCycleWrong : ChangeSpec := { name := "fnCycleThroughIsLeastShortestCycle", fn := fun _ => fun
  | [d] => { results := [.lit (.bool false)], args := [d] }
  | _ => none }
def FnCycleThroughIsLeastShortestCycleWrongFalsely : Prop := fnCycleThroughIsLeastShortestCycleRow.holds Try.pinned (OpenSpec.ofChange fnCycleThroughIsLeastShortestCycleWrong)

/-- 'zzlaws_schedule_b1.FnCycleThroughWalksACycleOnCycleReports': WHATEVER THE INPUT: true; the input reads as it did. -/
def fnCycleThroughWalksACycleOnCycleReportsSpec : ChangeSpec := { name := "fnCycleThroughWalksACycleOnCycleReports", fn := fun _ => fun
  | [d] => { results := [.lit (.bool true)], args := [d] }
  | _ => none }
def fnCycleThroughWalksACycleOnCycleReportsRow : OpenClaim := { program := "qxb6601852a", sum := "edb646eb58626eaa8be29aa2dc4d490d760213f7d4cf910aad59007a8dfaa4ac", func := "example.com/quorate/quorate/zzlaws_schedule_b1.FnCycleThroughWalksACycleOnCycleReports", spec := "fnCycleThroughWalksACycleOnCycleReports", apart := false }
def FnCycleThroughWalksACycleOnCycleReportsSaid : Prop := fnCycleThroughWalksACycleOnCycleReportsRow.holds Try.pinned (OpenSpec.ofChange fnCycleThroughWalksACycleOnCycleReportsSpec)

/-- ITS FALSE NEIGHBOUR: 'it returns false'. Refute it at one input. -/
def fnCycleThroughWalksACycleOnCycleReportsWrong : ChangeSpec := { name := "fnCycleThroughWalksACycleOnCycleReports", fn := fun _ => fun
  | [d] => { results := [.lit (.bool false)], args := [d] }
  | _ => none }
def FnCycleThroughWalksACycleOnCycleReportsWrongFalsely : Prop := fnCycleThroughWalksACycleOnCycleReportsRow.holds Try.pinned (OpenSpec.ofChange fnCycleThroughWalksACycleOnCycleReportsWrong)

/-- 'zzlaws_schedule_b1.FnVertexHeapLessIsCircularOrderFromTxns': WHATEVER THE INPUT: true; the input reads as it did. -/
def fnVertexHeapLessIsCircularOrderFromTxnsSpec : ChangeSpec := { name := "fnVertexHeapLessIsCircularOrderFromTxns", fn := fun _ => fun
  | [d1, d2, d3, d4] => { results := [.lit (.bool true)], args := [d1, d2, d3, d4] }
  | _ => none }
def fnVertexHeapLessIsCircularOrderFromTxnsRow : OpenClaim := { program := "qxb6601852a", sum := "edb646eb58626eaa8be29aa2dc4d490d760213f7d4cf910aad59007a8dfaa4ac", func := "example.com/quorate/quorate/zzlaws_schedule_b1.FnVertexHeapLessIsCircularOrderFromTxns", spec := "fnVertexHeapLessIsCircularOrderFromTxns", apart := false }
def FnVertexHeapLessIsCircularOrderFromTxnsSaid : Prop := fnVertexHeapLessIsCircularOrderFromTxnsRow.holds Try.pinned (OpenSpec.ofChange fnVertexHeapLessIsCircularOrderFromTxnsSpec)

/-- ITS FALSE NEIGHBOUR: 'it returns false'. Refute it at one input. -/
def fnVertexHeapLessIsCircularOrderFromTxnsWrong : ChangeSpec := { name := "fnVertexHeapLessIsCircularOrderFromTxns", fn := fun _ => fun
  | [d1, d2, d3, d4] => { results := [.lit (.bool false)], args := [d1, d2, d3, d4] }
  | _ => none }
def FnVertexHeapLessIsCircularOrderFromTxnsWrongFalsely : Prop := fnVertexHeapLessIsCircularOrderFromTxnsRow.holds Try.pinned (OpenSpec.ofChange fnVertexHeapLessIsCircularOrderFromTxnsWrong)

/-- 'zzlaws_schedule_b1.FnVertexHeapLessIsStrictTotalOrder': WHATEVER THE INPUT: true; the input reads as it did. -/
def fnVertexHeapLessIsStrictTotalOrderSpec : ChangeSpec := { name := "fnVertexHeapLessIsStrictTotalOrder", fn := fun _ => fun
  | [d1, d2, d3, d4, d5] => { results := [.lit (.bool true)], args := [d1, d2, d3, d4, d5] }
  | _ => none }
def fnVertexHeapLessIsStrictTotalOrderRow : OpenClaim := { program := "qxb6601852a", sum := "edb646eb58626eaa8be29aa2dc4d490d760213f7d4cf910aad59007a8dfaa4ac", func := "example.com/quorate/quorate/zzlaws_schedule_b1.FnVertexHeapLessIsStrictTotalOrder", spec := "fnVertexHeapLessIsStrictTotalOrder", apart := false }
def FnVertexHeapLessIsStrictTotalOrderSaid : Prop := fnVertexHeapLessIsStrictTotalOrderRow.holds Try.pinned (OpenSpec.ofChange fnVertexHeapLessIsStrictTotalOrderSpec)

/-- ITS FALSE NEIGHBOUR: 'it returns false'. Refute it at one input. -/
def fnVertexHeapLessIsStrictTotalOrderWrong : ChangeSpec := { name := "fnVertexHeapLessIsStrictTotalOrder", fn := fun _ => fun
  | [d1, d2, d3, d4, d5] => { results := [.lit (.bool false)], args := [d1, d2, d3, d4, d5] }
  | _ => none }
def FnVertexHeapLessIsStrictTotalOrderWrongFalsely : Prop := fnVertexHeapLessIsStrictTotalOrderRow.holds Try.pinned (OpenSpec.ofChange fnVertexHeapLessIsStrictTotalOrderWrong)

end Rows
end Go.Proofs.Qxb6601852a

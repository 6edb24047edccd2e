/-
  No cell of these rows narrows 'for every input' (looked for: loops, veiled, ifaces, maps, wideKeys, modest, calm, conditions, laid).
  DERIVED. THE GIVEN ROWS OF THIS SEAT. 6 by the template 'for every input the law returns true; each argument reads behind the call as it read before'; 0 by the template 'total and deterministic' (their statements: Qxb6601712aTotals.lean).
  GIVEN WITH THE SEED: the statements are not yours to turn. If you find one false, say at which input.
  Laid BY PROGRAM, IN A SANDBOX (cutbox-rows.mjs): the forced cells as the released guide's own fill.sh prints them over the translation b2d96aa5b2176774… (all of the seat's roots in one cut). By AI agents, Wed Nov 11 2026. No macro, syntax, notation, axiom, sorry.
-/
import Derived.Test.Qxb6601712aChecked
import GoSem.Claim
import GoSem.ClaimJoined
import GoSem.ClaimMapViews
import Derived.JoinedTies
import Derived.KernelRfl
namespace Go.Proofs.Qxb6601712a
/- THE CELL 'sum', in the pinned program and in every row, IS THE sha256 OF THE DUMP (.gsa) THAT Qxb6601712aProg.lean LOADS. Nothing in Lean hashes anything: it is a label: what it is worth is what the hold of that sum in a sandbox is worth. -/
noncomputable def Try.pinned : Pinned := { name := "qxb6601712a", sum := "b2d96aa5b21767742ffa4740ff561e975aeecca5fa45f557dd9304ac1c0a9725", checked := Try.checked }
namespace Rows
def none {H : Type} : Left H := { results := [], args := [] }

/-- 'zzlaws_internal_binder_b1.FnObjectRecordSizeShape': WHATEVER THE INPUT: true; the input reads as it did. -/
def fnObjectRecordSizeShapeSpec : ChangeSpec := { name := "fnObjectRecordSizeShape", fn := fun _ => fun
  | [d] => { results := [.lit (.bool true)], args := [d] }
  | _ => none }
def fnObjectRecordSizeShapeRow : OpenClaim := { program := "qxb6601712a", sum := "b2d96aa5b21767742ffa4740ff561e975aeecca5fa45f557dd9304ac1c0a9725", func := "example.com/modest-ipc/modest-ipc/zzlaws_internal_binder_b1.FnObjectRecordSizeShape", spec := "fnObjectRecordSizeShape", apart := false }
def FnObjectRecordSizeShapeSaid : Prop := fnObjectRecordSizeShapeRow.holds Try.pinned (OpenSpec.ofChange fnObjectRecordSizeShapeSpec)

/-- ITS FALSE NEIGHBOUR: 'it returns false'. Refute it at one input. -/
def fnObjectRecordSizeShapeWrong : ChangeSpec := { name := "fnObjectRecordSizeShape", fn := fun _ => fun
  | [d] => { results := [.lit (.bool false)], args := [d] }
  | _ => none }
def FnObjectRecordSizeShapeWrongFalsely : Prop := fnObjectRecordSizeShapeRow.holds Try.pinned (OpenSpec.ofChange fnObjectRecordSizeShapeWrong)

/-- 'zzlaws_internal_binder_b1.FnSpanMatchesCarryModel': WHATEVER THE INPUT: true; the input reads as it did. -/
def fnSpanMatchesCarryModelSpec : ChangeSpec := { name := "fnSpanMatchesCarryModel", fn := fun _ => fun
  | [d1, d2, d3] => { results := [.lit (.bool true)], args := [d1, d2, d3] }
  | _ => none }
def fnSpanMatchesCarryModelRow : OpenClaim := { program := "qxb6601712a", sum := "b2d96aa5b21767742ffa4740ff561e975aeecca5fa45f557dd9304ac1c0a9725", func := "example.com/modest-ipc/modest-ipc/zzlaws_internal_binder_b1.FnSpanMatchesCarryModel", spec := "fnSpanMatchesCarryModel", apart := false }
def FnSpanMatchesCarryModelSaid : Prop := fnSpanMatchesCarryModelRow.holds Try.pinned (OpenSpec.ofChange fnSpanMatchesCarryModelSpec)

/-- ITS FALSE NEIGHBOUR: 'it returns false'. Refute it at one input. -/
def fnSpanMatchesCarryModelWrong : ChangeSpec := { name := "fnSpanMatchesCarryModel", fn := fun _ => fun
  | [d1, d2, d3] => { results := [.lit (.bool false)], args := [d1, d2, d3] }
  | _ => none }
def FnSpanMatchesCarryModelWrongFalsely : Prop := fnSpanMatchesCarryModelRow.holds Try.pinned (OpenSpec.ofChange fnSpanMatchesCarryModelWrong)

/-- 'zzlaws_internal_binder_b1.FnSpanNests': WHATEVER THE INPUT: true; the input reads as it did. -/
def fnSpanNestsSpec : ChangeSpec := { name := "fnSpanNests", fn := fun _ => fun
  | [d1, d2, d3, d4, d5] => { results := [.lit (.bool true)], args := [d1, d2, d3, d4, d5] }
  | _ => none }
def fnSpanNestsRow : OpenClaim := { program := "qxb6601712a", sum := "b2d96aa5b21767742ffa4740ff561e975aeecca5fa45f557dd9304ac1c0a9725", func := "example.com/modest-ipc/modest-ipc/zzlaws_internal_binder_b1.FnSpanNests", spec := "fnSpanNests", apart := false }
def FnSpanNestsSaid : Prop := fnSpanNestsRow.holds Try.pinned (OpenSpec.ofChange fnSpanNestsSpec)

/-- ITS FALSE NEIGHBOUR: 'it returns false'. Refute it at one input. -/
def fnSpanNestsWrong : ChangeSpec := { name := "fnSpanNests", fn := fun _ => fun
  | [d1, d2, d3, d4, d5] => { results := [.lit (.bool false)], args := [d1, d2, d3, d4, d5] }
  | _ => none }
def FnSpanNestsWrongFalsely : Prop := fnSpanNestsRow.holds Try.pinned (OpenSpec.ofChange fnSpanNestsWrong)

/-- 'zzlaws_internal_binder_b1.FnFixupAllowedMatchesChildModel': WHATEVER THE INPUT: true; the input reads as it did. -/
def fnFixupAllowedMatchesChildModelSpec : ChangeSpec := { name := "fnFixupAllowedMatchesChildModel", fn := fun _ => fun
  | [d1, d2, d3, d4, d5, d6, d7, d8, d9, d10, d11] => { results := [.lit (.bool true)], args := [d1, d2, d3, d4, d5, d6, d7, d8, d9, d10, d11] }
  | _ => none }
def fnFixupAllowedMatchesChildModelRow : OpenClaim := { program := "qxb6601712a", sum := "b2d96aa5b21767742ffa4740ff561e975aeecca5fa45f557dd9304ac1c0a9725", func := "example.com/modest-ipc/modest-ipc/zzlaws_internal_binder_b1.FnFixupAllowedMatchesChildModel", spec := "fnFixupAllowedMatchesChildModel", apart := false }
def FnFixupAllowedMatchesChildModelSaid : Prop := fnFixupAllowedMatchesChildModelRow.holds Try.pinned (OpenSpec.ofChange fnFixupAllowedMatchesChildModelSpec)

/-- ITS FALSE NEIGHBOUR: 'it returns false'. Refute it at one input. -/
def fnFixupAllowedMatchesChildModelWrong : ChangeSpec := { name := "fnFixupAllowedMatchesChildModel", fn := fun _ => fun
  | [d1, d2, d3, d4, d5, d6, d7, d8, d9, d10, d11] => { results := [.lit (.bool false)], args := [d1, d2, d3, d4, d5, d6, d7, d8, d9, d10, d11] }
  | _ => none }
def FnFixupAllowedMatchesChildModelWrongFalsely : Prop := fnFixupAllowedMatchesChildModelRow.holds Try.pinned (OpenSpec.ofChange fnFixupAllowedMatchesChildModelWrong)

/-- 'zzlaws_internal_binder_b1.FnFixupAllowedUpwardClosed': WHATEVER THE INPUT: true; the input reads as it did. -/
def fnFixupAllowedUpwardClosedSpec : ChangeSpec := { name := "fnFixupAllowedUpwardClosed", fn := fun _ => fun
  | [d1, d2, d3, d4, d5, d6, d7, d8, d9, d10, d11, d12] => { results := [.lit (.bool true)], args := [d1, d2, d3, d4, d5, d6, d7, d8, d9, d10, d11, d12] }
  | _ => none }
def fnFixupAllowedUpwardClosedRow : OpenClaim := { program := "qxb6601712a", sum := "b2d96aa5b21767742ffa4740ff561e975aeecca5fa45f557dd9304ac1c0a9725", func := "example.com/modest-ipc/modest-ipc/zzlaws_internal_binder_b1.FnFixupAllowedUpwardClosed", spec := "fnFixupAllowedUpwardClosed", apart := false }
def FnFixupAllowedUpwardClosedSaid : Prop := fnFixupAllowedUpwardClosedRow.holds Try.pinned (OpenSpec.ofChange fnFixupAllowedUpwardClosedSpec)

/-- ITS FALSE NEIGHBOUR: 'it returns false'. Refute it at one input. -/
def fnFixupAllowedUpwardClosedWrong : ChangeSpec := { name := "fnFixupAllowedUpwardClosed", fn := fun _ => fun
  | [d1, d2, d3, d4, d5, d6, d7, d8, d9, d10, d11, d12] => { results := [.lit (.bool false)], args := [d1, d2, d3, d4, d5, d6, d7, d8, d9, d10, d11, d12] }
  | _ => none }
def FnFixupAllowedUpwardClosedWrongFalsely : Prop := fnFixupAllowedUpwardClosedRow.holds Try.pinned (OpenSpec.ofChange fnFixupAllowedUpwardClosedWrong)

/-- 'zzlaws_internal_binder_b1.FnFixupAllowedRefusesLaterBuffers': WHATEVER THE INPUT: true; the input reads as it did. -/
def fnFixupAllowedRefusesLaterBuffersSpec : ChangeSpec := { name := "fnFixupAllowedRefusesLaterBuffers", fn := fun _ => fun
  | [d1, d2, d3, d4, d5, d6, d7, d8, d9, d10, d11] => { results := [.lit (.bool true)], args := [d1, d2, d3, d4, d5, d6, d7, d8, d9, d10, d11] }
  | _ => none }
def fnFixupAllowedRefusesLaterBuffersRow : OpenClaim := { program := "qxb6601712a", sum := "b2d96aa5b21767742ffa4740ff561e975aeecca5fa45f557dd9304ac1c0a9725", func := "example.com/modest-ipc/modest-ipc/zzlaws_internal_binder_b1.FnFixupAllowedRefusesLaterBuffers", spec := "fnFixupAllowedRefusesLaterBuffers", apart := false }
def FnFixupAllowedRefusesLaterBuffersSaid : Prop := fnFixupAllowedRefusesLaterBuffersRow.holds Try.pinned (OpenSpec.ofChange fnFixupAllowedRefusesLaterBuffersSpec)

/-- ITS FALSE NEIGHBOUR: 'it returns false'. Refute it at one input. -/
def fnFixupAllowedRefusesLaterBuffersWrong : ChangeSpec := { name := "fnFixupAllowedRefusesLaterBuffers", fn := fun _ => fun
  | [d1, d2, d3, d4, d5, d6, d7, d8, d9, d10, d11] => { results := [.lit (.bool false)], args := [d1, d2, d3, d4, d5, d6, d7, d8, d9, d10, d11] }
  | _ => none }
def FnFixupAllowedRefusesLaterBuffersWrongFalsely : Prop := fnFixupAllowedRefusesLaterBuffersRow.holds Try.pinned (OpenSpec.ofChange fnFixupAllowedRefusesLaterBuffersWrong)

end Rows
end Go.Proofs.Qxb6601712a

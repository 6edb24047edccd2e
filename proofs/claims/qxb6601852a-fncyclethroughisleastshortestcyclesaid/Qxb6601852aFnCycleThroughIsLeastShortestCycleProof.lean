/-
  The proof of 'Rows.FnCycleThroughIsLeastShortestCycleSaid'. The walk: the texts that it imports.
-/
import Derived.Test.Qxb6601852aRows
import Derived.Test.Qxb6601852aLaw
import Derived.WalkKit
import Derived.ProofKit
import Derived.OpenShut
import Derived.ShutString
import Derived.ChangeOld
import Derived.Below
import Derived.Deep.Matrix
namespace Go.Proofs.Qxb6601852a.fnCycleThroughIsLeastShortestCycle
open Go.ChangeShapes Go.WideShapes Go.ChangeAt Go.RowKit
set_option linter.unusedVariables false

theorem own : ownKnob Try.prog.godebug = none := by kernel_rfl
theorem laidOut : laidOutB Try.prog = true := by kernel_rfl
theorem cells3 : Try.prog.cellsOf 3 = 1 := by kernel_rfl
theorem cells28 : Try.prog.cellsOf 28 = 1 := by kernel_rfl

theorem srcA_of {W : World} {a : Addr} {len : Nat} {f : Nat → Value} (h : ∀ i, i < len → W.cell? (a.add i) = some (f i)) : SrcA W (some a) len f := fun i hi => by
  obtain ⟨b, off, spot⟩ := a
  have hspot : spot = none := by simpa [Addr.add] using World.cell?_spot (h 0 (by omega))
  subst hspot
  have := h i hi
  rw [add_plain] at this
  exact ⟨b, off, rfl, World.block_lt_of_cell? W _ this, this⟩

set_option maxRecDepth 100000 in
theorem lifted (os : Os) (started : os.Started) (H : Type) (enc : TypeId × Value → H) :
    ReturnsInHanded {} Try.checked os 5 .any (Rows.fnCycleThroughIsLeastShortestCycleSpec.pre6 enc Try.prog Try.f5 Rows.fnCycleThroughIsLeastShortestCycleRow.domain false) (Rows.fnCycleThroughIsLeastShortestCycleSpec.post enc Try.prog Try.f5 false true false false) := by
  refine returnsInHanded_of_change (C := Try.checked) own started (by kernel_rfl) Try.func5
    (ChangeSpec.witness6 (enc := enc) (C := Try.checked) false ⟨#[], #[.slice none 0 0], []⟩ 8 (by kernel_rfl) (by kernel_rfl) (by kernel_rfl) (by kernel_rfl)) ?_
  intro W base args ds gs before hval0 hW hcnd _
  have hval : ∀ (j : Nat) t v, Try.f5.params[j]? = some t → args[j]? = some v → Value.okWide Try.prog W .any base t v := hval0
  have hW' := hW
  obtain ⟨p, q, hA0, hV, rfl, hfz, hnd⟩ := hW
  have hA : DataW.TrodAll enc Try.prog W 0 (fun _ => true) true Try.f5.params.toList args.toList ds p := hA0
  rw [Try.params5] at hA hval
  obtain ⟨v0, vs0, d0, ds0, p0, q0, hargs, rfl, rfl, h0, r0⟩ := trodAll_cons hA
  obtain ⟨rfl, rfl, rfl⟩ := trodAll_nil r0
  obtain rfl : args = #[v0] := by cases args; simp_all
  obtain ⟨rfl, rfl⟩ := trodVars_none hV
  obtain ⟨a0, len0, cap0, rfl⟩ := okWide_slice Try.underlying22 (hval 0 22 v0 rfl rfl)
  have k0 := h0
  have lt0 : ∀ x ∈ p0, x.block < W.heap.size := by obtain ⟨m, hm⟩ := k0; exact DataW.trod_lt m _ _ _ hm
  obtain ⟨A, L, C, Z, w0⟩ : ∃ (A : Nat → Option Addr) (L C : Nat → Nat) (Z : Nat → Nat → Int), InG W a0 len0 A L C Z := by
    obtain ⟨fuel, hf⟩ := h0
    rcases Go.Deep.open_int_rows Try.underlying22 Try.underlying28 Try.underlying3 cells28 cells3 hf with ⟨hcs, _⟩ | ⟨x, l, c, A, L, C, Z, hcs, _, hl, hm, _, hrow⟩
    · simp [Value.cells] at hcs
      obtain ⟨rfl, rfl, rfl⟩ := hcs
      exact ⟨fun _ => none, fun _ => 0, fun _ => 0, fun _ _ => 0, fun r hr => absurd hr (by omega), fun r hr => absurd hr (by omega)⟩
    · simp [Value.cells] at hcs
      obtain ⟨rfl, rfl, rfl⟩ := hcs
      refine ⟨A, L, C, fun r k => (Z r).getD k 0, srcA_of (fun r hr => (hrow r (by omega)).1), fun r hr => ?_⟩
      obtain ⟨_, h1, h2, h3, h4, h5, h6⟩ := hrow r (by omega)
      cases hA : A r with
      | none =>
        have := h5 hA
        exact fun k hk => absurd hk (by omega)
      | some x' => exact srcA_of (fun k hk => (h6 x' hA).2 k (by omega))
  clear hA0 hval0
  refine (law_any cap0 w0).mono fun e W' ⟨he, bel⟩ => ?_
  subst he
  exact ⟨_, rfl, _, _, _, [], _, [], hW', trodAll_mk1 (shut_bool Try.underlying4 _), (trodAll_cons_mk (Below.trod laidOut (by kernel_rfl) (of_decide_eq_true (by kernel_rfl)) k0 bel lt0) trodAll_mk0), rfl, bel.frame _, fun h => by cases h⟩

theorem over : Rows.fnCycleThroughIsLeastShortestCycleRow.holds Try.pinned (OpenSpec.ofChange Rows.fnCycleThroughIsLeastShortestCycleSpec) :=
  OpenClaim.holds_of_wide 5 Try.f5 rfl rfl rfl rfl rfl rfl rfl ⟨rfl, rfl, rfl, rfl, rfl⟩ rfl rfl rfl rfl rfl (by kernel_rfl) Try.func5 (by kernel_rfl)
    (of_decide_eq_true (by kernel_rfl)) (by unfold Func.isWrapper; first | (rw [if_pos (by decide +kernel)]; kernel_rfl) | (rw [if_neg (by decide +kernel)]; exact ⟨rfl, rfl⟩))
    (fun os started H enc _ => lifted os started H enc)

theorem proved : Rows.FnCycleThroughIsLeastShortestCycleSaid := over
end Go.Proofs.Qxb6601852a.fnCycleThroughIsLeastShortestCycle

namespace Go.Proofs.Qxb6601852a
/-- The given statement. -/
theorem fnCycleThroughIsLeastShortestCycle_proved : Rows.FnCycleThroughIsLeastShortestCycleSaid := fnCycleThroughIsLeastShortestCycle.proved
end Go.Proofs.Qxb6601852a

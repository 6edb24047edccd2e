/-
  The proof of 'Rows.FnComparisonRangesMeetAtTheValueSaid'. The frame follows the shells of the seat; the two arguments are structs of six one-cell fields.
-/
import Derived.Test.Qxb6601739aRows
import Derived.Test.Qxb6601739aMain
import Derived.Test.Qxb6601739aEdge
import Derived.WalkKit
import Derived.ProofKit
import Derived.OpenShut
import Derived.ShutString
import Derived.ChangeOld
import Derived.Below
namespace Go.Proofs.Qxb6601739a.fnComparisonRangesMeetAtTheValue
open Go.ChangeShapes Go.WideShapes Go.ChangeAt Go.RowKit
set_option linter.unusedVariables false

theorem own : ownKnob Try.prog.godebug = none := by kernel_rfl
theorem laidOut : laidOutB Try.prog = true := by kernel_rfl

theorem walk (k z : Int) (b : Bool) (c i : Int) (s : ByteArray) (k' z' : Int) (b' : Bool) (c' i' : Int) (s' : ByteArray) (w : World) (hl : s.size ≤ maxLen) (hl' : s'.size ≤ maxLen) :
    Calls Try.prog 6 #[.agg (six k z b c i s), .agg (six k' z' b' c' i' s')] w fun e w' => e = .returned (.bool true) ∧ Below w.heap.size w w' := by
  by_cases h : s.size ≤ 1048576 ∧ s'.size ≤ 1048576 ∧ s.size + s'.size ≤ 1048576 ∧ (k == 0) = false
  · exact main_good k z b c i s k' z' b' c' i' s' w h.2.2.2 h.1 h.2.1 h.2.2.1
  · refine main_edge k z b c i s k' z' b' c' i' s' w hl hl' ?_
    by_cases h1 : s.size ≤ 1048576
    · by_cases h2 : s'.size ≤ 1048576
      · by_cases h3 : s.size + s'.size ≤ 1048576
        · exact .inr (.inr (.inr ⟨h1, h2, h3, by simpa using fun e => h ⟨h1, h2, h3, e⟩⟩))
        · exact .inr (.inr (.inl ⟨h1, h2, by omega⟩))
      · exact .inr (.inl ⟨h1, by omega⟩)
    · exact .inl (by omega)

set_option maxRecDepth 100000 in
theorem lifted (os : Os) (started : os.Started) (H : Type) (enc : TypeId × Value → H) :
    ReturnsInHanded {} Try.checked os 6 .any (Rows.fnComparisonRangesMeetAtTheValueSpec.pre6 enc Try.prog Try.f6 Rows.fnComparisonRangesMeetAtTheValueRow.domain false) (Rows.fnComparisonRangesMeetAtTheValueSpec.post enc Try.prog Try.f6 false true false false) := by
  refine returnsInHanded_of_change (C := Try.checked) own started (by kernel_rfl) Try.func6
    (ChangeSpec.witness6 (enc := enc) (C := Try.checked) false ⟨#[], #[.agg (six 0 0 false 0 0 ByteArray.empty), .agg (six 0 0 false 0 0 ByteArray.empty)], []⟩ 8 (by kernel_rfl) (by kernel_rfl) (by kernel_rfl) (by kernel_rfl)) ?_
  intro W base args ds gs before hval0 hW hcnd _
  have hval : ∀ (j : Nat) t v, Try.f6.params[j]? = some t → args[j]? = some v → Value.okWide Try.prog W .any base t v := hval0
  have hW' := hW
  obtain ⟨p, q, hA0, hV, rfl, hfz, hnd⟩ := hW
  have hA : DataW.TrodAll enc Try.prog W 0 (fun _ => true) true Try.f6.params.toList args.toList ds p := hA0
  rw [Try.params6] at hA hval
  obtain ⟨v0, vs0, d0, ds0, p0, q0, hargs, rfl, rfl, h0, r0⟩ := trodAll_cons hA
  obtain ⟨v1, vs1, d1, ds1, p1, q1, rfl, rfl, rfl, h1, r1⟩ := trodAll_cons r0
  obtain ⟨rfl, rfl, rfl⟩ := trodAll_nil r1
  obtain rfl : args = #[v0, v1] := by cases args; simp_all
  obtain ⟨rfl, rfl⟩ := trodVars_none hV
  have k0 := h0
  have lt0 : ∀ x ∈ p0, x.block < W.heap.size := by obtain ⟨m, hm⟩ := k0; exact DataW.trod_lt m _ _ _ hm
  have k1 := h1
  have lt1 : ∀ x ∈ p1, x.block < W.heap.size := by obtain ⟨m, hm⟩ := k1; exact DataW.trod_lt m _ _ _ hm
  obtain ⟨k, z, b, c, i, s, rfl, hl⟩ := open_val (hval 0 28 v0 rfl rfl) h0
  obtain ⟨k', z', b', c', i', s', rfl, hl'⟩ := open_val (hval 1 28 v1 rfl rfl) h1
  clear hA0 hval0
  refine (walk k z b c i s k' z' b' c' i' s' W hl hl').mono fun e W' ⟨he, bel⟩ => ?_
  subst he
  exact ⟨_, rfl, _, _, _, [], _, [], hW', trodAll_mk1 (shut_bool Try.underlying4 _), (trodAll_cons_mk (Below.trod laidOut (by kernel_rfl) (of_decide_eq_true (by kernel_rfl)) k0 bel lt0) (trodAll_cons_mk (Below.trod laidOut (by kernel_rfl) (of_decide_eq_true (by kernel_rfl)) k1 bel lt1) trodAll_mk0)), rfl, bel.frame _, fun h => by cases h⟩

theorem over : Rows.fnComparisonRangesMeetAtTheValueRow.holds Try.pinned (OpenSpec.ofChange Rows.fnComparisonRangesMeetAtTheValueSpec) :=
  OpenClaim.holds_of_wide 6 Try.f6 rfl rfl rfl rfl rfl rfl rfl ⟨rfl, rfl, rfl, rfl, rfl⟩ rfl rfl rfl rfl rfl (by kernel_rfl) Try.func6 (by kernel_rfl)
    (of_decide_eq_true (by kernel_rfl)) (by unfold Func.isWrapper; first | (rw [if_pos (by decide +kernel)]; kernel_rfl) | (rw [if_neg (by decide +kernel)]; exact ⟨rfl, rfl⟩))
    (fun os started H enc _ => lifted os started H enc)
end Go.Proofs.Qxb6601739a.fnComparisonRangesMeetAtTheValue

namespace Go.Proofs.Qxb6601739a
/-- The given statement. -/
theorem fnComparisonRangesMeetAtTheValue_proved : Rows.FnComparisonRangesMeetAtTheValueSaid := fnComparisonRangesMeetAtTheValue.over
end Go.Proofs.Qxb6601739a

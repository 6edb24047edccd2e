import Derived.Test.Qxb6601712aFront
import Derived.Test.Qxb6601712aMore
namespace Go.Proofs.Qxb6601712a
open Go.ChangeShapes Go.WideShapes Go.ChangeAt Go.RowKit

set_option maxHeartbeats 1000000 in
/-- A length beyond the guard, or a layout that is not well formed: true at once. -/
theorem mo_out (a0 a1 a2 a3 a4 a5 : Option Addr) (l0 l1 l2 l3 l4 l5 c0 c1 c2 c3 c4 c5 : Nat) (x6 x7 x8 x9 x10 : Int) (w : World)
    (h : (4096 < l0) ∨ (l0 ≤ 4096 ∧ 4096 < l1) ∨ (l0 ≤ 4096 ∧ l1 ≤ 4096 ∧ 4096 < l2) ∨ (l0 ≤ 4096 ∧ l1 ≤ 4096 ∧ l2 ≤ 4096 ∧ 4096 < l3) ∨ (l0 ≤ 4096 ∧ l1 ≤ 4096 ∧ l2 ≤ 4096 ∧ l3 ≤ 4096 ∧ 4096 < l4) ∨ (l0 ≤ 4096 ∧ l1 ≤ 4096 ∧ l2 ≤ 4096 ∧ l3 ≤ 4096 ∧ l4 ≤ 4096 ∧ 4096 < l5)) :
    Calls Try.prog 6 #[.slice a0 l0 c0, .slice a1 l1 c1, .slice a2 l2 c2, .slice a3 l3 c3, .slice a4 l4 c4, .slice a5 l5 c5, .int .u64 x6, .int .i64 x7, .int .u64 x8, .int .i64 x9, .int .u64 x10] w
      fun e w' => e = .returned (.bool true) ∧ Below w.heap.size w w' := by
  rcases h with h | ⟨_, h⟩ | ⟨_, _, h⟩ | ⟨_, _, _, h⟩ | ⟨_, _, _, _, h⟩ | ⟨_, _, _, _, _, h⟩
  all_goals
    go_enter Try.func6, Try.ntmps6
    go_wp2_with fail
    refine (bytes14 _ _ _ _ _ _ _ _ _ _ _ _ _ _ _ _ _ _ _ _ _ _ _ _).mono ?_
    rintro e w' ⟨⟨r, rfl⟩, rfl⟩
    cases r
    · go_wp2
      go_ret
      exact ⟨rfl, Below.refl _ _⟩
    · go_wp2
      go_ret
      exact ⟨rfl, Below.refl _ _⟩
end Go.Proofs.Qxb6601712a

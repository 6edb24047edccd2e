import Derived.Test.Qxb6601712aFront
namespace Go.Proofs.Qxb6601712a
open Go.ChangeShapes Go.WideShapes Go.ChangeAt Go.RowKit

set_option maxHeartbeats 1000000 in
theorem bytes22 (a0 a1 a2 a3 a4 a5 : Option Addr) (l0 l1 l2 l3 l4 l5 c0 c1 c2 c3 c4 c5 : Nat) (x6 x7 x8 x9 x10 : Int) (w : World) :
    Calls Try.prog 22 #[.slice a0 l0 c0, .slice a1 l1 c1, .slice a2 l2 c2, .slice a3 l3 c3, .slice a4 l4 c4, .slice a5 l5 c5, .int .u64 x6, .int .i64 x7, .int .u64 x8, .int .i64 x9, .int .u64 x10] w
      fun e w' => (∃ r, e = .returned (.bool r)) ∧ w' = w := by
  go_enter Try.func22, Try.ntmps22
  go_wp2
  all_goals (go_ret; exact ⟨⟨_, rfl⟩, rfl⟩)

set_option maxHeartbeats 1000000 in
theorem bytes14 (a0 a1 a2 a3 a4 a5 : Option Addr) (l0 l1 l2 l3 l4 l5 c0 c1 c2 c3 c4 c5 : Nat) (x6 x7 x8 x9 x10 : Int) (w : World) :
    Calls Try.prog 14 #[.slice a0 l0 c0, .slice a1 l1 c1, .slice a2 l2 c2, .slice a3 l3 c3, .slice a4 l4 c4, .slice a5 l5 c5, .int .u64 x6, .int .i64 x7, .int .u64 x8, .int .i64 x9, .int .u64 x10] w
      fun e w' => (∃ r, e = .returned (.bool r)) ∧ w' = w := by
  go_enter Try.func14, Try.ntmps14
  go_wp2
  all_goals (go_ret; exact ⟨⟨_, rfl⟩, rfl⟩)

theorem okAt_none {o : Option Int} {a : Int} (h : o = none) : okAt o a = false := by rw [h]; rfl

/-- Beyond the last buffer, or below -1: the walk up never meets it. -/
theorem fx_none {U P : Nat → Int} {up : Int} {n : Nat} {last : Int} (hU : ∀ j, j < n → -1 ≤ U j ∧ U j < j) (hup : last < up ∨ up < -1) (h7 : last < n) :
    ∀ {g : Nat} {i f : Int}, i ≤ last → -1 ≤ i → fx U P up g i f = none := by
  intro g
  induction g with
  | zero => intro i f h1 h2; simp [fx]; omega
  | succ g ih =>
    intro i f h1 h2
    rw [fx, if_neg (by omega)]
    split
    · rfl
    · have := hU i.toNat (by omega)
      exact ih (by omega) (by omega)
end Go.Proofs.Qxb6601712a

import Derived.Test.Qxb6601739aRows
import Derived.Test.Qxb6601739aNum
import Derived.WalkKit
import Derived.ProofKit
import Derived.OpenShut
import Derived.ChangeOld
import Derived.Below
import Derived.WalkSpells
import Derived.WalkLawsBesides
import Derived.Deep.DeepCutAuto
namespace Go.Proofs.Qxb6601739a
open Go.ChangeShapes Go.WideShapes Go.ChangeAt Go.RowKit

theorem isDigit_any (c : Int) (w : World) :
    Calls Try.prog 21 #[.int .u8 c] w fun e w' => e = .returned (.bool (Num.isD c)) ∧ w' = w := by
  by_cases h1 : 48 ≤ c
  · by_cases h2 : c ≤ 57
    · have hR : Hid (Num.isD c = true) := by show _ = _; simp [Num.isD, h1, h2]
      go_enter Try.func21, Try.ntmps21
      go_wp2
      go_ret
      exact ⟨by rw [hR.out]; rfl, rfl⟩
    · have hR : Hid (Num.isD c = false) := by show _ = _; simp [Num.isD, h2]
      go_enter Try.func21, Try.ntmps21
      go_wp2
      go_ret
      exact ⟨by rw [hR.out]; rfl, rfl⟩
  · have hR : Hid (Num.isD c = false) := by show _ = _; simp [Num.isD, h1]
    go_enter Try.func21, Try.ntmps21
    go_wp2
    go_ret
    exact ⟨by rw [hR.out]; rfl, rfl⟩

theorem accepts_any (st : Int) (w : World) :
    Calls Try.prog 18 #[.int .i64 st] w fun e w' => e = .returned (.bool (Num.acc st)) ∧ w' = w := by
  by_cases h1 : st = 2
  · subst h1
    go_enter Try.func18, Try.ntmps18
    go_wp2
    go_ret
    exact ⟨rfl, rfl⟩
  by_cases h2 : st = 4
  · subst h2
    go_enter Try.func18, Try.ntmps18
    go_wp2
    go_ret
    exact ⟨rfl, rfl⟩
  have d1 : (st == 2) = false := by simpa using h1
  have d2 : (st == 4) = false := by simpa using h2
  have hR : Hid (Num.acc st = (st == 7)) := by show _ = _; simp [Num.acc, d1, d2]
  clear h1 h2
  go_enter Try.func18, Try.ntmps18
  go_wp2
  go_ret
  exact ⟨by rw [hR.out]; rfl, rfl⟩

/-- the seven kinds of a byte -/
theorem kinds (c : Int) : (48 ≤ c ∧ c ≤ 57) ∨ c = 43 ∨ c = 45 ∨ c = 46 ∨ c = 101 ∨ c = 69 ∨ ((¬ (48 ≤ c ∧ c ≤ 57)) ∧ ((c == 43) = false ∧ (c == 45) = false ∧ (c == 46) = false ∧ (c == 101) = false ∧ (c == 69) = false)) := by
  by_cases h : 48 ≤ c ∧ c ≤ 57
  · exact .inl h
  by_cases h1 : c = 43
  · exact .inr (.inl h1)
  by_cases h2 : c = 45
  · exact .inr (.inr (.inl h2))
  by_cases h3 : c = 46
  · exact .inr (.inr (.inr (.inl h3)))
  by_cases h4 : c = 101
  · exact .inr (.inr (.inr (.inr (.inl h4))))
  by_cases h5 : c = 69
  · exact .inr (.inr (.inr (.inr (.inr (.inl h5)))))
  exact .inr (.inr (.inr (.inr (.inr (.inr ⟨h, by simpa using h1, by simpa using h2, by simpa using h3, by simpa using h4, by simpa using h5⟩)))))

def StepPost (r : Int) (w : World) (e : Ending) (w' : World) : Prop := e = .returned (.int .i64 r) ∧ w' = w

set_option maxHeartbeats 4000000 in
theorem step_any (st c : Int) (w : World) (h0 : 0 ≤ st) (h7 : st ≤ 7) :
    Calls Try.prog 17 #[.int .i64 st, .int .u8 c] w (StepPost (Num.step st c) w) := by
  obtain rfl | rfl | rfl | rfl | rfl | rfl | rfl | rfl : st = 0 ∨ st = 1 ∨ st = 2 ∨ st = 3 ∨ st = 4 ∨ st = 5 ∨ st = 6 ∨ st = 7 := by omega
  all_goals
    rcases kinds c with ⟨d1, d2⟩ | rfl | rfl | rfl | rfl | rfl | ⟨d1, d2, d3, d4, d5, d6⟩
    · rw [Num.step_d _ (c := c) (by simp [Num.isD, d1, d2])]
      have k1 : (c == 43) = false := by simp; omega
      have k2 : (c == 45) = false := by simp; omega
      have k3 : (c == 46) = false := by simp; omega
      have k4 : (c == 101) = false := by simp; omega
      have k5 : (c == 69) = false := by simp; omega
      go_enter Try.func17, Try.ntmps17
      go_wp2
      go_ret
      exact ⟨rfl, rfl⟩
    iterate 5
      · go_enter Try.func17, Try.ntmps17
        go_wp2
        go_ret
        exact ⟨rfl, rfl⟩
    · rw [Num.step_o _ (c := c) (by simp [Num.isD]; omega) (by simp [Num.isS, d2, d3]) (by simp [Num.isE, d5, d6]) (by simpa using d4)]
      by_cases d7 : 48 ≤ c
      · have d8 : ¬ c ≤ 57 := fun h => d1 ⟨d7, h⟩
        clear d1
        go_enter Try.func17, Try.ntmps17
        go_wp2
        go_ret
        exact ⟨rfl, rfl⟩
      · clear d1
        go_enter Try.func17, Try.ntmps17
        go_wp2
        go_ret
        exact ⟨rfl, rfl⟩
end Go.Proofs.Qxb6601739a

/-
  The plain function that compare computes: the marks of a script between two ranges; and that it always has some.
-/
import Derived.Test.Qxb6601687aSnake
namespace Go.Proofs.Qxb6601687a
namespace My

def pre (P : Lay) (a1 b1 : Nat) : Nat → Nat → Nat → Nat × Nat
  | 0, a0, b0 => (a0, b0)
  | g + 1, a0, b0 => if a0 < a1 ∧ b0 < b1 ∧ P.za a0 = P.zb b0 then pre P a1 b1 g (a0 + 1) (b0 + 1) else (a0, b0)
def suf (P : Lay) (a0 b0 : Nat) : Nat → Nat → Nat → Nat × Nat
  | 0, a1, b1 => (a1, b1)
  | g + 1, a1, b1 => if a0 < a1 ∧ b0 < b1 ∧ P.za (a1 - 1) = P.zb (b1 - 1) then suf P a0 b0 g (a1 - 1) (b1 - 1) else (a1, b1)
abbrev Marks := (Nat → Bool) × (Nat → Bool)
def orM (p q : Marks) : Marks := (fun i => p.1 i || q.1 i, fun j => p.2 j || q.2 j)
/-- The script behind the trimming: one side is empty; or the two halves beside a middle snake. -/
def core (P : Lay) (rec : Nat → Nat → Nat → Nat → Option Marks) (a0 a1 b0 b1 : Nat) : Option Marks :=
  if a0 = a1 ∨ b0 = b1 then some (fun i => decide (a0 ≤ i) && decide (i < a1), fun j => decide (b0 ≤ j) && decide (j < b1))
  else match snakeOf (eqf P a0 b0) ((a1 : Int) - a0) ((b1 : Int) - b0) with
    | none => none
    | some r => match rec a0 (a0 + r.1.toNat) b0 (b0 + r.2.1.toNat), rec (a0 + r.2.2.1.toNat) a1 (b0 + r.2.2.2.toNat) b1 with
      | some p, some q => some (orM p q)
      | _, _ => none
def lo (P : Lay) (a0 a1 b0 b1 : Nat) : Nat × Nat := pre P a1 b1 (a1 - a0) a0 b0
def hi (P : Lay) (a0 a1 b0 b1 : Nat) : Nat × Nat := suf P a0 b0 (a1 - a0) a1 b1
def cmp (P : Lay) : Nat → Nat → Nat → Nat → Nat → Option Marks
  | 0, _, _, _, _ => none
  | g + 1, a0, a1, b0, b1 =>
    core P (cmp P g) (lo P a0 a1 b0 b1).1 (hi P (lo P a0 a1 b0 b1).1 a1 (lo P a0 a1 b0 b1).2 b1).1 (lo P a0 a1 b0 b1).2 (hi P (lo P a0 a1 b0 b1).1 a1 (lo P a0 a1 b0 b1).2 b1).2

theorem pre_spec (P : Lay) (a1 b1 : Nat) : ∀ (g a0 b0 : Nat), a1 - a0 ≤ g → a0 ≤ a1 → b0 ≤ b1 →
    ∃ t, pre P a1 b1 g a0 b0 = (a0 + t, b0 + t) ∧ a0 + t ≤ a1 ∧ b0 + t ≤ b1 ∧ ¬ (a0 + t < a1 ∧ b0 + t < b1 ∧ P.za (a0 + t) = P.zb (b0 + t)) := by
  intro g
  induction g with
  | zero => intro a0 b0 hg h1 h2; exact ⟨0, rfl, by omega, by omega, by omega⟩
  | succ g ih =>
    intro a0 b0 hg h1 h2
    rw [pre]
    split
    · rename_i h
      obtain ⟨t, e, q1, q2, q3⟩ := ih (a0 + 1) (b0 + 1) (by omega) (by omega) (by omega)
      refine ⟨t + 1, ?_, by omega, by omega, ?_⟩
      · rw [e]; simp only [Prod.mk.injEq]; omega
      · rw [show a0 + (t + 1) = a0 + 1 + t by omega, show b0 + (t + 1) = b0 + 1 + t by omega]; exact q3
    · rename_i h
      exact ⟨0, rfl, by omega, by omega, by simpa using h⟩
theorem suf_spec (P : Lay) (a0 b0 : Nat) : ∀ (g a1 b1 : Nat), a1 - a0 ≤ g → a0 ≤ a1 → b0 ≤ b1 →
    ∃ t, suf P a0 b0 g a1 b1 = (a1 - t, b1 - t) ∧ t ≤ a1 ∧ t ≤ b1 ∧ a0 ≤ a1 - t ∧ b0 ≤ b1 - t ∧ ¬ (a0 < a1 - t ∧ b0 < b1 - t ∧ P.za (a1 - t - 1) = P.zb (b1 - t - 1)) := by
  intro g
  induction g with
  | zero => intro a1 b1 hg h1 h2; exact ⟨0, rfl, by omega, by omega, by omega, by omega, by omega⟩
  | succ g ih =>
    intro a1 b1 hg h1 h2
    rw [suf]
    split
    · rename_i h
      obtain ⟨t, e, q0, q0', q1, q2, q3⟩ := ih (a1 - 1) (b1 - 1) (by omega) (by omega) (by omega)
      refine ⟨t + 1, ?_, by omega, by omega, by omega, by omega, ?_⟩
      · rw [e]; simp only [Prod.mk.injEq]; omega
      · rw [show a1 - (t + 1) = a1 - 1 - t by omega, show b1 - (t + 1) = b1 - 1 - t by omega]; exact q3
    · rename_i h
      exact ⟨0, rfl, by omega, by omega, by omega, by omega, by simpa using h⟩

/-- Where the ends differ the middle snake is there, and its halves are smaller. -/
theorem snake_here (P : Lay) {a0 a1 b0 b1 : Nat} (ha : a0 < a1) (hb : b0 < b1) (h0 : ¬ P.za a0 = P.zb b0) (h1 : ¬ P.za (a1 - 1) = P.zb (b1 - 1)) :
    ∃ r, snakeOf (eqf P a0 b0) ((a1 : Int) - a0) ((b1 : Int) - b0) = some r ∧ Good ((a1 : Int) - a0) ((b1 : Int) - b0) r := by
  refine snakeOf_good (by omega) (by omega) ?_ ?_
  · unfold eqf
    rw [show ((a0 : Int) + 0).toNat = a0 by omega, show ((b0 : Int) + 0).toNat = b0 by omega]
    simpa using h0
  · unfold eqf
    rw [show ((a0 : Int) + ((a1 : Int) - a0 - 1)).toNat = a1 - 1 by omega, show ((b0 : Int) + ((b1 : Int) - b0 - 1)).toNat = b1 - 1 by omega]
    simpa using h1

theorem cmp_some (P : Lay) : ∀ (g a0 a1 b0 b1 : Nat), a0 ≤ a1 → b0 ≤ b1 → (a1 - a0) + (b1 - b0) < g → ∃ M, cmp P g a0 a1 b0 b1 = some M := by
  intro g
  induction g with
  | zero => intro a0 a1 b0 b1 _ _ h; omega
  | succ g ih =>
    intro a0 a1 b0 b1 h1 h2 hs
    rw [cmp]
    unfold lo hi
    obtain ⟨t, e, q1, q2, q3⟩ := pre_spec P a1 b1 (a1 - a0) a0 b0 (Nat.le_refl _) h1 h2
    rw [e]
    simp only
    obtain ⟨u, e', p0, p0', p1, p2, p3⟩ := suf_spec P (a0 + t) (b0 + t) (a1 - (a0 + t)) a1 b1 (Nat.le_refl _) q1 q2
    rw [e']
    simp only
    unfold core
    split
    · exact ⟨_, rfl⟩
    · rename_i hne
      obtain ⟨r, er, g1, g2, g3, g4, g5, g6, g7, g8⟩ := snake_here P (a0 := a0 + t) (a1 := a1 - u) (b0 := b0 + t) (b1 := b1 - u) (by omega) (by omega) (fun h => q3 ⟨by omega, by omega, h⟩) (fun h => p3 ⟨by omega, by omega, h⟩)
      rw [er]
      simp only
      obtain ⟨p, ep⟩ := ih (a0 + t) (a0 + t + r.1.toNat) (b0 + t) (b0 + t + r.2.1.toNat) (by omega) (by omega) (by omega)
      obtain ⟨q, eq⟩ := ih (a0 + t + r.2.2.1.toNat) (a1 - u) (b0 + t + r.2.2.2.toNat) (b1 - u) (by omega) (by omega) (by omega)
      rw [ep, eq]
      exact ⟨_, rfl⟩
end My
end Go.Proofs.Qxb6601687a

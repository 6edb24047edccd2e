import Derived.Test.Qxb6601739aRp
import Derived.Lib.SmallJoins
namespace Go.Proofs.Qxb6601739a
open Go.ChangeShapes Go.WideShapes Go.ChangeAt Go.RowKit Go.Joins
open Go.Deep

set_option maxRecDepth 100000 in
set_option maxHeartbeats 2000000 in
/-- A long string, or the kind of NULL: true at once. -/
theorem main_edge (k z : Int) (b : Bool) (c i : Int) (s : ByteArray) (k' z' : Int) (b' : Bool) (c' i' : Int) (s' : ByteArray) (w : World)
    (hl : s.size ≤ maxLen) (hl' : s'.size ≤ maxLen)
    (h : (1048576 < s.size) ∨ (s.size ≤ 1048576 ∧ 1048576 < s'.size) ∨ (s.size ≤ 1048576 ∧ s'.size ≤ 1048576 ∧ 1048576 < s.size + s'.size) ∨ (s.size ≤ 1048576 ∧ s'.size ≤ 1048576 ∧ s.size + s'.size ≤ 1048576 ∧ (k == 0) = true)) :
    Calls Try.prog 6 #[.agg (six k z b c i s), .agg (six k' z' b' c' i' s')] w fun e w' => e = .returned (.bool true) ∧ Below w.heap.size w w' := by
  unfold maxLen at hl hl'
  rcases h with h | ⟨_, h⟩ | ⟨_, _, h⟩ | ⟨_, _, _, h⟩
  all_goals
    go_enter Try.func6, Try.ntmps6
    go_wp2_with fail
    refine (bytes12 _ _ _ _ _ _ _ _ _ _ _ _ _).mono ?_
    rintro e w1 ⟨r, rfl, hb1⟩
    have B1 : Below w.heap.size w w1 := (((Below.refl _ _).alloc (Nat.le_refl _) _).alloc (by simp) _).trans (hb1.mono (by simp; omega))
    have u0 : w1.cell? ⟨w.heap.size, 0, none⟩ = some (.int .u8 k) := (hb1.cell (p := ⟨w.heap.size, 0, none⟩) (by simp; omega)).trans (by simp)
    have u5 : w1.cell? ⟨w.heap.size, 5, none⟩ = some (.string s) := (hb1.cell (p := ⟨w.heap.size, 5, none⟩) (by simp; omega)).trans (by simp)
    have v5 : w1.cell? ⟨w.heap.size + 1, 5, none⟩ = some (.string s') := (hb1.cell (p := ⟨w.heap.size + 1, 5, none⟩) (by simp)).trans (by simp)
    clear hb1
    cases r
    · go_wp2
      go_ret
      exact ⟨rfl, B1⟩
    · go_wp2
      go_ret
      exact ⟨rfl, B1⟩

theorem array6 {α : Type} {cs : Array α} (h : cs.size = 6) : ∃ c0 c1 c2 c3 c4 c5, cs = #[c0, c1, c2, c3, c4, c5] := by
  obtain ⟨l⟩ := cs
  match l, h with
  | [c0, c1, c2, c3, c4, c5], _ => exact ⟨c0, c1, c2, c3, c4, c5, rfl⟩

theorem Try.cells28 : Try.prog.cellsOf 28 = 6 := by kernel_rfl
theorem Try.cells5 : Try.prog.cellsOf 5 = 1 := by kernel_rfl
theorem Try.cells26 : Try.prog.cellsOf 26 = 1 := by kernel_rfl
theorem Try.cells4 : Try.prog.cellsOf 4 = 1 := by kernel_rfl
theorem Try.cells2 : Try.prog.cellsOf 2 = 1 := by kernel_rfl
theorem Try.cells9 : Try.prog.cellsOf 9 = 1 := by kernel_rfl

/-- What a ZValue that came in looks like. -/
theorem open_val {H : Type} {enc : TypeId × Value → H} {W : World} {b0 : Nat} {v : Value} {d : DataW H} {p : List MemPlace}
    (hv : Value.okWide Try.prog W .any b0 28 v) (h : DataW.Trod enc Try.prog W 0 (fun _ => true) true 28 v d p) :
    ∃ k z b c i s, v = .agg (six k z b c i s) ∧ s.size ≤ maxLen := by
  obtain ⟨cs, rfl, hsz⟩ := okWide_struct Try.underlying28 hv
  obtain ⟨c0, c1, c2, c3, c4, c5, rfl⟩ := array6 (hsz.trans Try.cells28)
  obtain ⟨fuel, hf⟩ := h
  obtain ⟨xs, n, _, _, _, hlen, hq⟩ := DataW.trod_struct Try.underlying28 hf
  have e : ∀ i, i < 6 → ∃ y, xs[i]? = some y := fun i hi => by
    have : i < xs.length := by rw [hlen]; exact hi
    exact ⟨xs[i], by simp [this]⟩
  obtain ⟨y0, e0⟩ := e 0 (by omega)
  obtain ⟨y1, e1⟩ := e 1 (by omega)
  obtain ⟨y2, e2⟩ := e 2 (by omega)
  obtain ⟨y3, e3⟩ := e 3 (by omega)
  obtain ⟨y4, e4⟩ := e 4 (by omega)
  obtain ⟨y5, e5⟩ := e 5 (by omega)
  have q0 := (hq 0 _ rfl).trans e0
  have q1 := (hq 1 _ rfl).trans e1
  have q2 := (hq 2 _ rfl).trans e2
  have q3 := (hq 3 _ rfl).trans e3
  have q4 := (hq 4 _ rfl).trans e4
  have q5 := (hq 5 _ rfl).trans e5
  obtain ⟨k, r0, _, _⟩ := DataW.trod_int Try.underlying5 q0
  obtain ⟨z, r1, _, _⟩ := DataW.trod_int Try.underlying26 q1
  obtain ⟨b, r2, _⟩ := DataW.trod_bool Try.underlying4 q2
  obtain ⟨c, r3, _, _⟩ := DataW.trod_int Try.underlying5 q3
  obtain ⟨i, r4, _, _⟩ := DataW.trod_int Try.underlying2 q4
  obtain ⟨s, r5, _, hs⟩ := DataW.trod_string Try.underlying9 q5
  simp [Value.cells, Try.cells5] at r0 r3
  simp [Value.cells, Try.cells26] at r1
  simp [Value.cells, Try.cells4] at r2
  simp [Value.cells, Try.cells2] at r4
  simp [Value.cells, Try.cells9] at r5
  subst r0 r1 r2 r3 r4 r5
  exact ⟨k, z, b, c, i, s, rfl, hs⟩

end Go.Proofs.Qxb6601739a

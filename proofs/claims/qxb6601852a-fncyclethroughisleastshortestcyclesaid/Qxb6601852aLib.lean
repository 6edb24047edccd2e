/-
  slices.Index and slices.Reverse, as cycleThrough calls them.
-/
import Derived.Test.Qxb6601852aPath
namespace Go.Proofs.Qxb6601852a
open Go.ChangeShapes Go.WideShapes Go.ChangeAt Go.RowKit

/-- What onCycle leaves. -/
def OnPost (L : Nat → Nat) (e : Nat → Nat → Nat) (n : Nat) (w : World) (en : Ending) (w' : World) : Prop :=
  ∃ res : Nat → Bool, en = .returned (.slice (some ⟨w.heap.size + 3, 0, none⟩) n n) ∧ w'.rowIs (w.heap.size + 3) 4 n (fun v => .bool (res v)) ∧ (∀ v, v < n → (res v = true ↔ Gr.OC L e v)) ∧ Below w.heap.size w w'

theorem Vec.set {w : World} {N g m cap : Nat} {f : Nat → Int} (h : Vec w N (some ⟨g, 0, none⟩) m cap f) (i : Nat) (y : Int) : Vec (w.setCell ⟨g, i, none⟩ (.int .i64 y)) N (some ⟨g, 0, none⟩) m cap (Gr.upd f i y) := by
  have h1 := (World.ownsRow.stored h i (.int .i64 y)).1
  unfold Vec
  rw [show (List.range m).map (fun j => Value.int .i64 (Gr.upd f i y j)) = ((List.range m).map (fun j => Value.int .i64 (f j))).set i (.int .i64 y) from ?_]
  · exact h1
  · apply List.ext_getElem?
    intro j
    by_cases hj : j < m
    · rw [List.getElem?_map, List.getElem?_range hj, List.getElem?_set]
      simp only [Option.map_some, List.length_map, List.length_range]
      by_cases e0 : i = j
      · subst e0
        rw [if_pos rfl, if_pos hj, Gr.upd_same]
      · rw [if_neg e0, List.getElem?_map, List.getElem?_range hj]
        simp only [Option.map_some, Gr.upd_other _ _ (fun h => e0 h.symm)]
    · rw [List.getElem?_eq_none (by simp; omega), List.getElem?_eq_none (by simp; omega)]

set_option maxHeartbeats 1000000 in
theorem index_any {w : World} {b n s : Nat} {res : Nat → Bool} (h : w.rowIs b 4 n (fun v => .bool (res v))) (hn : n ≤ 4096) (hs : s < n) (h1 : Hid (res s = true)) (h2 : Hid (∀ v, v < s → res v = false)) :
    Calls Try.prog 32 #[.slice (some ⟨b, 0, none⟩) n n, .bool true] w fun en w' => en = .returned (.int .i64 s) ∧ w' = w := by
  go_enter Try.func32, Try.ntmps32
  go_wp2_with fail
  go_loopg [8] (s + 1) (fun gm X wr => ∃ k : Nat, X = .int .i64 k ∧ k ≤ s ∧ gm = s + 1 - k ∧ wr = w)
  case atStart => exact ⟨0, rfl, Nat.zero_le _, rfl, rfl⟩
  case round =>
    obtain ⟨k, rfl, hk, hg, rfl⟩ := hrel
    have hlt : (k : Int) < n := by omega
    have c1 := h.cell (i := k) (by omega)
    by_cases e0 : k = s
    · subst e0
      rw [h1.out] at c1
      go_wp2
      go_ret
      exact ⟨rfl, rfl⟩
    · rw [h2.out k (by omega)] at c1
      go_wp2
      go_roundg (s + 1 - (k + 1))
      case measure => omega
      case rel => exact ⟨k + 1, by go_num, by omega, rfl, rfl⟩

set_option maxHeartbeats 2000000 in
theorem reverse_any {w : World} {N g m cap : Nat} {f : Nat → Int} (h : Vec w N (some ⟨g, 0, none⟩) m cap f) (hm : m ≤ 1048576) (hm1 : 1 ≤ m) :
    Calls Try.prog 33 #[.slice (some ⟨g, 0, none⟩) m cap] w fun en w' => en = .returned (.tuple #[]) ∧ Vec w' N (some ⟨g, 0, none⟩) m cap (fun i => f (m - 1 - i)) ∧ Below N w w' := by
  have hg := (h.lt g rfl).1
  go_enter Try.func33, Try.ntmps33
  go_wp2_with fail
  go_loopg [2, 3] m (fun gm X Y wr => ∃ i : Nat, X = .int .i64 i ∧ Y = .int .i64 ((m : Int) - 1 - i) ∧ 2 * i ≤ m ∧ gm = m - i ∧ Vec wr N (some ⟨g, 0, none⟩) m cap (fun t => if t < i ∨ m - 1 - i < t then f (m - 1 - t) else f t) ∧ Below N w wr)
  case atStart => exact ⟨0, rfl, by simp, by omega, rfl, h.congr (fun t ht => by rw [if_neg (by omega)]), Below.refl _ _⟩
  case round =>
    clear h
    obtain ⟨i, rfl, rfl, hi, hgm, hV, hb⟩ := hrel
    by_cases hlt : (i : Int) < (m : Int) - 1 - i
    · obtain ⟨j, hj⟩ : ∃ j : Nat, j = m - 1 - i := ⟨_, rfl⟩
      have ej : (m : Int) - 1 - i = (j : Int) := by omega
      rw [ej] at hlt ⊢
      have hij : i < j := by omega
      have c1 := hV.cell (i := i) (by omega)
      have c2 := hV.cell (i := j) (by omega)
      simp only [show ¬ (i < i ∨ m - 1 - i < i) by omega, if_false] at c1
      simp only [show ¬ (j < i ∨ m - 1 - i < j) by omega, if_false] at c2
      have c3 : wr.frozen? ⟨g, i, none⟩ = false := World.ownsRow.frozenAt hV i
      have c4 : wr.frozen? ⟨g, j, none⟩ = false := World.ownsRow.frozenAt hV j
      have hV2 := ((hV.set i (f j)).set j (f i)).congr (f' := fun t => if t < i + 1 ∨ m - 1 - (i + 1) < t then f (m - 1 - t) else f t) (fun t ht => by
        by_cases e1 : t = j
        · subst e1
          rw [Gr.upd_same, if_pos (by omega), hj, show m - 1 - (m - 1 - i) = i by omega]
        · rw [Gr.upd_other _ _ e1]
          by_cases e2 : t = i
          · subst e2
            rw [Gr.upd_same, if_pos (by omega), hj]
          · rw [Gr.upd_other _ _ e2]
            by_cases e3 : t < i ∨ m - 1 - i < t
            · rw [if_pos e3, if_pos (by omega)]
            · rw [if_neg e3, if_neg (by omega)])
      have hb2 := (hb.setCell (p := ⟨g, i, none⟩) hg (.int .i64 (f j))).setCell (p := ⟨g, j, none⟩) hg (.int .i64 (f i))
      have i1 : (i : Int) < m := by omega
      have i2 : (j : Int) < m := by omega
      have hjj : Hid (j = m - 1 - i) := hj
      clear hV hb ej hj
      go_upto_region 3 with fail
      go_region
      go_wp2
      go_roundg (m - (i + 1))
      case measure => omega
      case rel =>
        have hj2 := hjj.out
        exact ⟨i + 1, by go_num, by rw [show (m : Int) - 1 - ((i + 1 : Nat) : Int) = (j : Int) - 1 by omega], by omega, rfl, hV2.of (fun _ _ => rfl), hb2.drew⟩
    · go_wp2
      go_end0
      refine ⟨rfl, hV.congr (fun t ht => ?_), hb⟩
      by_cases e1 : t < i ∨ m - 1 - i < t
      · rw [if_pos e1]
      · rw [if_neg e1, show m - 1 - t = t by omega]
end Go.Proofs.Qxb6601852a

/-
  The graph in memory, and the guards of the law.
-/
import Derived.Test.Qxb6601852aRows
import Derived.Test.Qxb6601852aTarjan
import Derived.WalkKit
import Derived.ProofKit
import Derived.OpenShut
import Derived.ChangeOld
import Derived.Below
import Derived.Deep.OwnRows
import Derived.WalkSpells
import Derived.Deep.CutRange
import Derived.Deep.CutBlock
import Derived.Deep.LoopGhost
import Derived.Deep.QuietTactic
import Derived.BigQuiet
import Derived.KernelRfl
namespace Go.Proofs.Qxb6601852a
open Go.ChangeShapes Go.WideShapes Go.ChangeAt Go.RowKit

/-- Hidden from the walk's simplifier. -/
def Hid (p : Prop) : Prop := p
theorem Hid.out {p : Prop} (h : Hid p) : p := h

/-- The slice at a reads as f. -/
def SrcA (w : World) (a : Option Addr) (n : Nat) (f : Nat → Value) : Prop := ∀ i, i < n → ∃ b o, a = some ⟨b, o, none⟩ ∧ b < w.heap.size ∧ w.cell? ⟨b, o + i, none⟩ = some (f i)
theorem SrcA.later {w w' : World} {a : Option Addr} {n : Nat} {f : Nat → Value} (h : SrcA w a n f) (hb : Below w.heap.size w w') : SrcA w' a n f := fun i hi => by
  obtain ⟨b, o, h1, h2, h3⟩ := h i hi
  exact ⟨b, o, h1, Nat.lt_of_lt_of_le h2 hb.size, (hb.cell (p := ⟨b, o + i, none⟩) h2).trans h3⟩
/-- The slice at a is a graph of n lists. -/
structure InG (w : World) (a : Option Addr) (n : Nat) (A : Nat → Option Addr) (L C : Nat → Nat) (Z : Nat → Nat → Int) : Prop where
  rows : SrcA w a n (fun r => .slice (A r) (L r) (C r))
  cells : ∀ r, r < n → SrcA w (A r) (L r) (fun k => .int .i64 (Z r k))

/-- Some answer; memory as it was. -/
def BoolPost (w : World) (e : Ending) (w' : World) : Prop := (∃ r, e = .returned (.bool r)) ∧ w' = w
theorem BoolPost.of {w w' : World} {e : Ending} {r : Bool} (h : e = .returned (.bool r)) (h' : w' = w) : BoolPost w e w' := ⟨⟨r, h⟩, h'⟩

section
variable {w : World} {a : Option Addr} {n : Nat} {A : Nat → Option Addr} {L C : Nat → Nat} {Z : Nat → Nat → Int}

set_option maxHeartbeats 1000000 in
theorem bytes_any (c : Nat) (h : InG w a n A L C Z) : Calls Try.prog 18 #[.slice a n c] w (BoolPost w) := by
  go_enter Try.func18, Try.ntmps18
  by_cases k0 : (n : Int) > 1048576
  · go_wp2; go_ret; exact BoolPost.of rfl rfl
  go_wp2_with fail
  go_loopg [3, 4] n (fun g z i wr => ∃ (k s : Nat), k ≤ n ∧ i = .int .i64 k ∧ z = .int .i64 s ∧ s ≤ 1048576 ∧ wr = w ∧ g = n - k)
  case atStart => exact ⟨0, n, Nat.zero_le _, rfl, rfl, by omega, rfl, rfl⟩
  case round =>
    obtain ⟨k, s, hk, rfl, rfl, hs, rfl, hg⟩ := hrel
    by_cases hlt : (k : Int) < n
    · obtain ⟨b, o, rfl, hb, hc⟩ := h.rows k (by omega)
      by_cases k1 : (L k : Int) > 1048576
      · go_wp2; go_ret; exact BoolPost.of rfl rfl
      by_cases k2 : (s : Int) + L k > 1048576
      · go_wp2; go_ret; exact BoolPost.of rfl rfl
      go_wp2
      go_roundg (n - (k + 1))
      case measure => omega
      case rel => exact ⟨k + 1, s + L k, by omega, by go_num, by go_num, by omega, rfl, rfl⟩
    · go_wp2; go_ret; exact BoolPost.of rfl rfl

set_option maxHeartbeats 1000000 in
/-- The size guard: where it says no, the graph is small. -/
theorem big_any (c : Nat) (h : InG w a n A L C Z) : Calls Try.prog 10 #[.slice a n c] w fun e w' => (e = .returned (.bool true) ∨ (e = .returned (.bool false) ∧ n ≤ 4096 ∧ ∀ r, r < n → L r ≤ 131072)) ∧ w' = w := by
  go_enter Try.func10, Try.ntmps10
  by_cases k0 : (n : Int) > 4096
  · go_wp2; go_ret; exact ⟨Or.inl rfl, rfl⟩
  go_wp2_with fail
  go_loopg [3, 4] n (fun g z i wr => ∃ (k s : Nat), k ≤ n ∧ i = .int .i64 k ∧ z = .int .i64 s ∧ s ≤ 1048576 ∧ wr = w ∧ g = n - k ∧ Hid (∀ r, r < k → L r ≤ 131072))
  case atStart => exact ⟨0, 8 * n, Nat.zero_le _, rfl, by go_num, by omega, rfl, rfl, fun r hr => absurd hr (by omega)⟩
  case round =>
    obtain ⟨k, s, hk, rfl, rfl, hs, rfl, hg, hL⟩ := hrel
    by_cases hlt : (k : Int) < n
    · obtain ⟨b, o, rfl, hb, hc⟩ := h.rows k (by omega)
      by_cases k1 : (L k : Int) > 131072
      · go_wp2; go_ret; exact ⟨Or.inl rfl, rfl⟩
      by_cases k2 : (s : Int) + 8 * L k > 1048576
      · go_wp2; go_ret; exact ⟨Or.inl rfl, rfl⟩
      go_wp2
      go_roundg (n - (k + 1))
      case measure => omega
      case rel =>
        refine ⟨k + 1, s + 8 * L k, by omega, by go_num, by go_num, by omega, rfl, rfl, fun r hr => ?_⟩
        by_cases e0 : r = k
        · subst e0; omega
        · exact hL.out r (by omega)
    · go_wp2; go_ret; exact ⟨Or.inr ⟨rfl, by omega, fun r hr => hL.out r (by omega)⟩, rfl⟩

set_option maxHeartbeats 1000000 in
/-- The graph is well formed. -/
theorem wf_any (c : Nat) (h : InG w a n A L C Z) (hn : n ≤ 4096) (hL : Hid (∀ r, r < n → L r ≤ 131072)) :
    Calls Try.prog 11 #[.slice a n c] w fun e w' => (e = .returned (.bool false) ∨ (e = .returned (.bool true) ∧ ∀ v, v < n → ∀ k, k < L v → 0 ≤ Z v k ∧ Z v k < n ∧ Z v k ≠ v)) ∧ w' = w := by
  go_enter Try.func11, Try.ntmps11
  go_wp2_with fail
  go_loopg [4] n (fun g i wr => ∃ (v : Nat), v ≤ n ∧ i = .int .i64 v ∧ wr = w ∧ g = n - v ∧ Hid (∀ u, u < v → ∀ k, k < L u → 0 ≤ Z u k ∧ Z u k < n ∧ Z u k ≠ u))
  case atStart => exact ⟨0, Nat.zero_le _, rfl, rfl, rfl, fun r hr => absurd hr (by omega)⟩
  case round =>
    obtain ⟨v, hv, rfl, rfl, hg, hZ⟩ := hrel
    by_cases hlt : (v : Int) < n
    · have hv' : v < n := by omega
      have hLv := hL.out v hv'
      obtain ⟨b, o, rfl, hb, hc⟩ := h.rows v hv'
      go_wp2_with fail
      go_loopg [5] (L v) (fun g i wr' => ∃ (k : Nat), k ≤ L v ∧ i = .int .i64 k ∧ wr' = wr ∧ g = L v - k ∧ Hid (∀ j, j < k → 0 ≤ Z v j ∧ Z v j < n ∧ Z v j ≠ v))
      case atStart => exact ⟨0, Nat.zero_le _, rfl, rfl, rfl, fun r hr => absurd hr (by omega)⟩
      case round =>
        obtain ⟨k, hk, rfl, rfl, hg', hZ'⟩ := hrel
        by_cases hlt' : (k : Int) < L v
        · obtain ⟨b', o', hA, hb', hc'⟩ := h.cells v hv' k (by omega)
          rw [hA] at hc
          by_cases k1 : Z v k < 0
          · go_wp2; go_ret; exact ⟨Or.inl rfl, rfl⟩
          by_cases k2 : Z v k ≥ n
          · go_wp2; go_ret; exact ⟨Or.inl rfl, rfl⟩
          by_cases k3 : Z v k = v
          · have k3' : (Z v k == (v : Int)) = true := by simpa using k3
            clear k3
            go_wp2; go_ret; exact ⟨Or.inl rfl, rfl⟩
          have k3' : (Z v k == (v : Int)) = false := by simpa using k3
          have hE : Hid (∀ j, j < k + 1 → 0 ≤ Z v j ∧ Z v j < n ∧ Z v j ≠ v) := fun j hj => by
            by_cases e0 : j = k
            · subst e0; exact ⟨by omega, by omega, k3⟩
            · exact hZ'.out j (by omega)
          clear k3
          go_wp2
          go_roundg (L v - (k + 1))
          case measure => omega
          case rel => exact ⟨k + 1, by omega, by go_num, rfl, rfl, hE⟩
        · have hE : Hid (∀ u, u < v + 1 → ∀ k, k < L u → 0 ≤ Z u k ∧ Z u k < n ∧ Z u k ≠ u) := fun u hu j hj => by
            by_cases e0 : u = v
            · subst e0; exact hZ'.out j (by omega)
            · exact hZ.out u (by omega) j hj
          go_wp2
          go_roundg (n - (v + 1))
          case measure => omega
          case rel => exact ⟨v + 1, by omega, by go_num, rfl, rfl, hE⟩
    · go_wp2; go_ret; exact ⟨Or.inr ⟨rfl, fun u hu => hZ.out u (by omega)⟩, rfl⟩
end
end Go.Proofs.Qxb6601852a

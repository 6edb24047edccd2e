import Derived.Test.Qxb6601712aClone
namespace Go.Proofs.Qxb6601712a
open Go.ChangeShapes Go.WideShapes Go.ChangeAt Go.RowKit

set_option maxHeartbeats 1000000 in
theorem bytes21 (a0 a1 a2 a3 a4 a5 : Option Addr) (l0 l1 l2 l3 l4 l5 c0 c1 c2 c3 c4 c5 : Nat) (x6 x7 x8 x9 x10 x11 : Int) (w : World) :
    Calls Try.prog 21 #[.slice a0 l0 c0, .slice a1 l1 c1, .slice a2 l2 c2, .slice a3 l3 c3, .slice a4 l4 c4, .slice a5 l5 c5, .int .u64 x6, .int .i64 x7, .int .u64 x8, .int .i64 x9, .int .u64 x10, .int .u64 x11] w
      fun e w' => (∃ r, e = .returned (.bool r)) ∧ w' = w := by
  go_enter Try.func21, Try.ntmps21
  go_wp2
  all_goals (go_ret; exact ⟨⟨_, rfl⟩, rfl⟩)

/-- What 'zzWellFormed' says where it says yes. -/
def WF (l0 l1 l2 l3 l4 n : Nat) (zs : List Int) (last : Int) : Prop :=
  1 ≤ n ∧ l0 = n ∧ l1 = n ∧ l2 = n ∧ l3 = n ∧ l4 = n ∧ 0 ≤ last ∧ last < n ∧ ∀ j, j < n → -1 ≤ zs[j]?.getD 0 ∧ zs[j]?.getD 0 < j
def WfPost (p : Prop) (w : World) (e : Ending) (w' : World) : Prop := (e = .returned (.bool false) ∨ (e = .returned (.bool true) ∧ p)) ∧ w' = w
theorem WfPost.no {p : Prop} {w : World} : WfPost p w (.returned (.bool false)) w := ⟨.inl rfl, rfl⟩
theorem WfPost.yes {p : Prop} {w : World} (h : p) : WfPost p w (.returned (.bool true)) w := ⟨.inr ⟨rfl, h⟩, rfl⟩

set_option maxHeartbeats 1000000 in
theorem wf_any (a0 a1 a2 a3 a4 : Option Addr) (l0 l1 l2 l3 l4 c0 c1 c2 c3 c4 b off n cap : Nat) (zs : List Int) (last : Int) (w : World) (hm : n ≤ 1048576)
    (hcell : ∀ i, i < n → w.cell? ⟨b, off + i, none⟩ = some (.int .i64 (zs[i]?.getD 0))) :
    Calls Try.prog 15 #[.slice a0 l0 c0, .slice a1 l1 c1, .slice a2 l2 c2, .slice a3 l3 c3, .slice a4 l4 c4, .slice (some ⟨b, off, none⟩) n cap, .int .i64 last] w
      (WfPost (WF l0 l1 l2 l3 l4 n zs last) w) := by
  by_cases e0 : n = 0
  · subst e0
    go_enter Try.func15, Try.ntmps15
    go_wp2
    go_ret
    exact WfPost.no
  have n1 : 1 ≤ n := by omega
  have d0 : ((n : Int) == 0) = false := by simpa using e0
  by_cases e1 : l0 = n
  rotate_left
  · have d1 : ((l0 : Int) != n) = true := by simp; omega
    go_enter Try.func15, Try.ntmps15
    go_wp2
    go_ret
    exact WfPost.no
  subst l0
  by_cases e1 : l1 = n
  rotate_left
  · have d1 : ((l1 : Int) != n) = true := by simp; omega
    go_enter Try.func15, Try.ntmps15
    go_wp2
    go_ret
    exact WfPost.no
  subst l1
  by_cases e1 : l2 = n
  rotate_left
  · have d1 : ((l2 : Int) != n) = true := by simp; omega
    go_enter Try.func15, Try.ntmps15
    go_wp2
    go_ret
    exact WfPost.no
  subst l2
  by_cases e1 : l3 = n
  rotate_left
  · have d1 : ((l3 : Int) != n) = true := by simp; omega
    go_enter Try.func15, Try.ntmps15
    go_wp2
    go_ret
    exact WfPost.no
  subst l3
  by_cases e1 : l4 = n
  rotate_left
  · have d1 : ((l4 : Int) != n) = true := by simp; omega
    go_enter Try.func15, Try.ntmps15
    go_wp2
    go_ret
    exact WfPost.no
  subst l4
  by_cases e6 : last < 0
  · go_enter Try.func15, Try.ntmps15
    go_wp2
    go_ret
    exact WfPost.no
  by_cases e7 : (n : Int) ≤ last
  · go_enter Try.func15, Try.ntmps15
    go_wp2
    go_ret
    exact WfPost.no
  go_enter Try.func15, Try.ntmps15
  go_wp2
  go_loop [16] (fun i => ∃ k : Nat, k ≤ n ∧ i = .int .i64 k ∧ Hid (∀ j, j < k → -1 ≤ zs[j]?.getD 0 ∧ zs[j]?.getD 0 < j)) (fun i => n - (intOf i).toNat)
  case atStart => exact ⟨0, Nat.zero_le _, rfl, fun j hj => absurd hj (by omega)⟩
  case round =>
    obtain ⟨k, hk, rfl, hz⟩ := hrel
    by_cases hlt : k < n
    · have hc := hcell k hlt
      by_cases q1 : zs[k]?.getD 0 < -1
      · go_wp2
        go_ret
        exact WfPost.no
      by_cases q2 : (k : Int) ≤ zs[k]?.getD 0
      · go_wp2
        go_ret
        exact WfPost.no
      go_wp2
      go_round
      case rel => exact ⟨k + 1, by omega, by go_num, fun j hj => by by_cases e : j = k; (subst e; exact ⟨by omega, by omega⟩); exact hz.out j (by omega)⟩
      case measure => simp [intOf]; omega
    · go_wp2
      go_ret
      exact WfPost.yes ⟨n1, rfl, rfl, rfl, rfl, rfl, by omega, by omega, fun j hj => hz.out j (by omega)⟩
end Go.Proofs.Qxb6601712a

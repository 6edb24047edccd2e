import Derived.Test.Qxb6601712aRows
import Derived.WalkKit
import Derived.ProofKit
import Derived.OpenShut
import Derived.ChangeOld
import Derived.Below
import Derived.Deep.OwnRows
import Derived.WalkSpells
namespace Go.Proofs.Qxb6601712a
open Go.ChangeShapes Go.WideShapes Go.ChangeAt Go.RowKit

theorem Try.info23 : (Try.prog.info? 23).map (fun i => (i.zero, i.size, i.bytes)) = some (some (.int .u64 0), 1, 8) := by kernel_rfl
theorem Try.info3 : (Try.prog.info? 3).map (fun i => (i.zero, i.size, i.bytes)) = some (some (.int .i64 0), 1, 8) := by kernel_rfl

/-- one round of a clone on the world -/
theorem clone_step {wr : World} {B t n k : Nat} {g : Nat → Value} {z : Value} (hrow : wr.rowIs B t n (fun i => if i < k then g i else z)) :
    (wr.setCell ⟨B, k, none⟩ (g k)).rowIs B t n (fun i => if i < k + 1 then g i else z) := by
  refine (hrow.set k (g k)).congr ?_
  intro i _
  by_cases h : i = k
  · subst h; simp
  · simp only [if_neg h]
    by_cases h2 : i < k
    · simp [h2, show i < k + 1 by omega]
    · simp [h2, show ¬ i < k + 1 by omega]

set_option maxHeartbeats 400000 in
theorem cloneU64_any (b off len cap : Nat) (zs : List Int) (w : World) (hm : len ≤ 1048576) (hb : b < w.heap.size)
    (hcell : ∀ i, i < len → w.cell? ⟨b, off + i, none⟩ = some (.int .u64 (zs[i]?.getD 0))) :
    Calls Try.prog 16 #[.slice (some ⟨b, off, none⟩) len cap] w fun e w' => e = .returned (.slice (some ⟨w.heap.size, 0, none⟩) len len) ∧ w'.rowIs w.heap.size 23 len (fun i => .int .u64 (zs[i]?.getD 0)) ∧ Below w.heap.size w w' ∧ w'.heap.size = w.heap.size + 1 := by
  have hmk := run_make_row' (P := Try.prog) 32 23 (.int .u64 0) 8 Try.underlying32 Try.info23 rfl .i64 .i64 len (by omega) (by omega)
  have hnil := fun wx n c n' c' => Lib.run_eql_slice_nil (P := Try.prog) wx 32 23 (some ⟨b, off, none⟩) n c n' c' Try.underlying32
  go_enter Try.func16, Try.ntmps16
  go_wp2
  have hrow0 := World.rowIs_made w (.int .u64 0) len 23
  go_loopw [4] (fun i wr => ∃ k : Nat, k ≤ len ∧ i = .int .i64 k ∧ wr.rowIs w.heap.size 23 len (fun j => if j < k then .int .u64 (zs[j]?.getD 0) else .int .u64 0) ∧ Below w.heap.size w wr ∧ wr.heap.size = w.heap.size + 1)
    (fun i _ => len - (intOf i).toNat)
  case atStart => exact ⟨0, Nat.zero_le _, rfl, hrow0.congr (by simp), (Below.refl _ _).alloc (Nat.le_refl _) _, by simp⟩
  case round =>
    obtain ⟨k, hk, rfl, hrow, hbel, hsz⟩ := hrel
    clear hrow0
    by_cases hlt : k < len
    · have hc : wr.cell? ⟨b, off + k, none⟩ = some (.int .u64 (zs[k]?.getD 0)) := (hbel.cell (p := ⟨b, off + k, none⟩) hb).trans (hcell k hlt)
      have hc2 : wr.cell? ⟨w.heap.size, k, none⟩ = some (.int .u64 0) := by rw [hrow.cell hlt]; simp
      have hf2 : wr.frozen? ⟨w.heap.size, k, none⟩ = false := hrow.frozen k
      have R := clone_step (g := fun j => .int .u64 (zs[j]?.getD 0)) hrow
      go_wp2
      go_roundw
      case rel => exact ⟨k + 1, by omega, by go_num, R, hbel.setCell (Nat.le_refl _) _, by simpa [World.setCell] using hsz⟩
      case measure => simp [intOf]; omega
    · go_wp2
      go_ret
      exact ⟨rfl, hrow.congr (by intro i hi; simp [show i < k by omega]), hbel, hsz⟩
set_option maxHeartbeats 400000 in
theorem cloneInts_any (b off len cap : Nat) (zs : List Int) (w : World) (hm : len ≤ 1048576) (hb : b < w.heap.size)
    (hcell : ∀ i, i < len → w.cell? ⟨b, off + i, none⟩ = some (.int .i64 (zs[i]?.getD 0))) :
    Calls Try.prog 17 #[.slice (some ⟨b, off, none⟩) len cap] w fun e w' => e = .returned (.slice (some ⟨w.heap.size, 0, none⟩) len len) ∧ w'.rowIs w.heap.size 3 len (fun i => .int .i64 (zs[i]?.getD 0)) ∧ Below w.heap.size w w' ∧ w'.heap.size = w.heap.size + 1 := by
  have hmk := run_make_row' (P := Try.prog) 33 3 (.int .i64 0) 8 Try.underlying33 Try.info3 rfl .i64 .i64 len (by omega) (by omega)
  have hnil := fun wx n c n' c' => Lib.run_eql_slice_nil (P := Try.prog) wx 33 3 (some ⟨b, off, none⟩) n c n' c' Try.underlying33
  go_enter Try.func17, Try.ntmps17
  go_wp2
  have hrow0 := World.rowIs_made w (.int .i64 0) len 3
  go_loopw [4] (fun i wr => ∃ k : Nat, k ≤ len ∧ i = .int .i64 k ∧ wr.rowIs w.heap.size 3 len (fun j => if j < k then .int .i64 (zs[j]?.getD 0) else .int .i64 0) ∧ Below w.heap.size w wr ∧ wr.heap.size = w.heap.size + 1)
    (fun i _ => len - (intOf i).toNat)
  case atStart => exact ⟨0, Nat.zero_le _, rfl, hrow0.congr (by simp), (Below.refl _ _).alloc (Nat.le_refl _) _, by simp⟩
  case round =>
    obtain ⟨k, hk, rfl, hrow, hbel, hsz⟩ := hrel
    clear hrow0
    by_cases hlt : k < len
    · have hc : wr.cell? ⟨b, off + k, none⟩ = some (.int .i64 (zs[k]?.getD 0)) := (hbel.cell (p := ⟨b, off + k, none⟩) hb).trans (hcell k hlt)
      have hc2 : wr.cell? ⟨w.heap.size, k, none⟩ = some (.int .i64 0) := by rw [hrow.cell hlt]; simp
      have hf2 : wr.frozen? ⟨w.heap.size, k, none⟩ = false := hrow.frozen k
      have R := clone_step (g := fun j => .int .i64 (zs[j]?.getD 0)) hrow
      go_wp2
      go_roundw
      case rel => exact ⟨k + 1, by omega, by go_num, R, hbel.setCell (Nat.le_refl _) _, by simpa [World.setCell] using hsz⟩
      case measure => simp [intOf]; omega
    · go_wp2
      go_ret
      exact ⟨rfl, hrow.congr (by intro i hi; simp [show i < k by omega]), hbel, hsz⟩
end Go.Proofs.Qxb6601712a

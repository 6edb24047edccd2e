import Derived.Test.Qxb6601739aApp
import Derived.Deep.RegionHeld3
import Derived.Deep.DrawnRows
namespace Go.Proofs.Qxb6601739a
open Go.ChangeShapes Go.WideShapes Go.ChangeAt Go.RowKit
attribute [local go_sem ↓] Go.wp_at_zero Go.wp_at_succ

set_option maxHeartbeats 2000000 in
theorem parts_any (k z : Int) (b : Bool) (c i : Int) (s : ByteArray) (p q : Bool) (k' z' : Int) (b' : Bool) (c' i' : Int) (s' : ByteArray) (p' q' : Bool) (w : World) :
    Calls Try.prog 15 #[.agg #[.int .u8 k, .int .u16 z, .bool b, .int .u8 c, .int .i64 i, .string s, .bool p, .bool q, .int .u8 k', .int .u16 z', .bool b', .int .u8 c', .int .i64 i', .string s', .bool p', .bool q']] w
      fun e w' => e = .returned (.tuple #[.agg (six k z b c i s), .bool p, .bool q, .agg (six k' z' b' c' i' s'), .bool p', .bool q']) ∧ Below w.heap.size w w' := by
  go_enter Try.func15, Try.ntmps15
  go_wp2
  go_region_held3 (fun w' => w'.cell? ⟨w.heap.size, 0, none⟩ = some (.int .u8 k) ∧ w'.cell? ⟨w.heap.size, 1, none⟩ = some (.int .u16 z) ∧ w'.cell? ⟨w.heap.size, 2, none⟩ = some (.bool b) ∧ w'.cell? ⟨w.heap.size, 3, none⟩ = some (.int .u8 c) ∧ w'.cell? ⟨w.heap.size, 4, none⟩ = some (.int .i64 i) ∧ w'.cell? ⟨w.heap.size, 5, none⟩ = some (.string s) ∧ w'.cell? ⟨w.heap.size, 6, none⟩ = some (.bool p) ∧ w'.cell? ⟨w.heap.size, 7, none⟩ = some (.bool q) ∧ w'.cell? ⟨w.heap.size, 8, none⟩ = some (.int .u8 k') ∧ w'.cell? ⟨w.heap.size, 9, none⟩ = some (.int .u16 z') ∧ w'.cell? ⟨w.heap.size, 10, none⟩ = some (.bool b') ∧ w'.cell? ⟨w.heap.size, 11, none⟩ = some (.int .u8 c') ∧ w'.cell? ⟨w.heap.size, 12, none⟩ = some (.int .i64 i') ∧ w'.cell? ⟨w.heap.size, 13, none⟩ = some (.string s') ∧ w'.cell? ⟨w.heap.size, 14, none⟩ = some (.bool p') ∧ w'.cell? ⟨w.heap.size, 15, none⟩ = some (.bool q')) (go_keep) (fail)
  go_wp2
  refine bodyPost_ret (v := .tuple #[.agg (six k z b c i s), .bool p, .bool q, .agg (six k' z' b' c' i' s'), .bool p', .bool q']) (by simp [results, Try.results15, go_sem]) rfl ⟨rfl, ?_⟩
  exact ((((Below.refl _ _).alloc (Nat.le_refl _) _).alloc (by simp) _).alloc (by simp; omega) _).drew

/-- A bool, whichever; nothing old is written. -/
def AnyBool (w : World) (e : Ending) (w' : World) : Prop := ∃ r, e = .returned (.bool r) ∧ Below w.heap.size w w'
theorem AnyBool.mk {w w' : World} (r : Bool) (h : Below w.heap.size w w') : AnyBool w (.returned (.bool r)) w' := ⟨r, rfl, h⟩

set_option maxHeartbeats 1000000 in
theorem bytes12 (k z : Int) (b : Bool) (c i : Int) (s : ByteArray) (k' z' : Int) (b' : Bool) (c' i' : Int) (s' : ByteArray) (w : World) :
    Calls Try.prog 12 #[.agg (six k z b c i s), .agg (six k' z' b' c' i' s')] w (AnyBool w) := by
  go_enter Try.func12, Try.ntmps12
  go_wp2
  all_goals (go_ret; exact AnyBool.mk _ (((Below.refl _ _).alloc (Nat.le_refl _) _).alloc (by simp) _))

end Go.Proofs.Qxb6601739a

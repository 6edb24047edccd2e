import Derived.Test.Qxb6601712aClone
import Derived.Deep.AppendLies
namespace Go.Proofs.Qxb6601712a
open Go.ChangeShapes Go.WideShapes Go.ChangeAt Go.RowKit

theorem Try.info53 : (Try.prog.info? 53).map (fun i => (i.zero, i.size, i.bytes)) = some (some (.agg #[.int .u64 0, .int .i64 0, .int .u64 0, .int .i64 0, .int .u64 0, .int .i64 0]), 6, 48) := by kernel_rfl

theorem new_any (x y z : Int) (w : World) :
    Calls Try.prog 23 #[.int .u64 x, .int .i64 y, .int .u64 z] w fun e w' => e = .returned (.pointer (some ⟨w.heap.size, 0, none⟩)) ∧ w' = w.alloc (.cells #[.slice none 0 0, .int .u64 x, .int .i64 y, .int .u64 z] 49) := by
  go_enter Try.func23, Try.ntmps23
  go_wp2
  go_ret
  exact ⟨rfl, rfl⟩

set_option maxHeartbeats 400000 in
theorem place_any (L n : Nat) (v : Value) (s1 s2 s3 : Value) (xs : List Value) (x1 x2 x3 x4 x5 x6 : Int) (w : World) (hL : w.heap[L]? = some (.cells #[v, s1, s2, s3] 49 (0, 0)))
    (hown : w.ownsRow (L + 1) 53 6 v n xs) (hn : n ≤ 1048576) :
    Calls Try.prog 24 #[.pointer (some ⟨L, 0, none⟩), .int .u64 x1, .int .i64 x2, .int .u64 x3, .int .i64 x4, .int .u64 x5, .int .i64 x6] w fun e w' => e = .returned (.tuple #[]) ∧
      ∃ v', w'.heap[L]? = some (.cells #[v', s1, s2, s3] 49 (0, 0)) ∧ w'.ownsRow (L + 1) 53 6 v' (n + 1) (xs ++ [.int .u64 x1, .int .i64 x2, .int .u64 x3, .int .i64 x4, .int .u64 x5, .int .i64 x6]) ∧ Below L w w' := by
  obtain ⟨i0, hi, hz0, hz1, hz2⟩ := info_parts Try.info53
  have hc : w.cell? ⟨L, 0, none⟩ = some v := by simp [World.cell?, hL]
  have hLt : L < w.heap.size := (Array.getElem?_eq_some_iff.1 hL).1
  go_enter Try.func24, Try.ntmps24
  go_wp2_with (at_builtin; refine wpList_append_lies _ (by rfl) _ _ 47 (by rfl) (L + 1) 53 i0 _ 6 48 Try.underlying47 hi hz0 hz1 hz2 rfl (by omega) v n xs (by rfl) (hown.alloc _) ⟨w.heap.size, 0, none⟩ 1 1 [.int .u64 x1, .int .i64 x2, .int .u64 x3, .int .i64 x4, .int .u64 x5, .int .i64 x6] (by rfl) (by rfl) (World.news_of_block (heap_alloc_new w _)) ?c2 (by omega) (by unfold maxLen; omega) (by omega) ?c3 (w.heap.size + 1) (by simp) ?_)
  case c2 => intro u hu; simp at hu; rcases hu with rfl | rfl | rfl | rfl | rfl | rfl <;> rfl
  case c3 => simp; omega
  intro g cap w1 hown1 hgrow hat hlt
  have hLb : w1.heap[L]? = some (.cells #[v, s1, s2, s3] 49 (0, 0)) := by
    rw [hgrow.block L (by simp; omega) (fun e => by have := (hown.lt L e.symm).1; omega)]
    rw [heap_alloc_old _ _ hLt]; exact hL
  have hc1 : w1.cell? ⟨L, 0, none⟩ = some v := by simp [World.cell?, hLb]
  have hf1 : w1.frozen? ⟨L, 0, none⟩ = false := by simp [World.frozen?, hLb]
  have hbel : Below L w w1 := ((Below.refl L w).alloc (by omega) _).grown hgrow (by simp; omega) (fun k hk => by have := (hown.lt k hk).1; omega)
  clear hgrow hat hc hL
  go_wp2
  go_end0
  refine ⟨rfl, _, ?_, ownsRow_setCell_below hown1 (by simp) _, hbel.setCell (Nat.le_refl _) _⟩
  rw [heap_setCell_same _ _ _ _ _ _ hLb]; rfl
end Go.Proofs.Qxb6601712a

import Derived.Test.Qxb6601712aPlace
import Derived.Deep.RegionHeld3
import Derived.Deep.DrawnRows
namespace Go.Proofs.Qxb6601712a
open Go.ChangeShapes Go.WideShapes Go.ChangeAt Go.RowKit
attribute [local go_sem ↓] Go.wp_at_zero Go.wp_at_succ

/-- The six cells of one placed buffer. -/
def recAt (z0 z1 z2 z3 z4 z5 : List Int) (i : Nat) : List Value :=
  [.int .u64 (z0[i]?.getD 0), .int .i64 (z1[i]?.getD 0), .int .u64 (z2[i]?.getD 0), .int .i64 (z3[i]?.getD 0), .int .u64 (z4[i]?.getD 0), .int .i64 (z5[i]?.getD 0)]
def recs (z0 z1 z2 z3 z4 z5 : List Int) (k : Nat) : List Value := (List.range k).flatMap (recAt z0 z1 z2 z3 z4 z5)
theorem recs_succ (z0 z1 z2 z3 z4 z5 : List Int) (k : Nat) : recs z0 z1 z2 z3 z4 z5 (k + 1) = recs z0 z1 z2 z3 z4 z5 k ++ recAt z0 z1 z2 z3 z4 z5 k := by
  simp [recs, List.range_succ]

set_option maxHeartbeats 1000000 in
theorem layout_any (b0 b1 b2 b3 b4 b5 n : Nat) (z0 z1 z2 z3 z4 z5 : List Int) (x y z : Int) (w : World) (hn : n ≤ 1048576)
    (g0 : b0 < w.heap.size) (g1 : b1 < w.heap.size) (g2 : b2 < w.heap.size) (g3 : b3 < w.heap.size) (g4 : b4 < w.heap.size) (g5 : b5 < w.heap.size)
    (h0 : ∀ i, i < n → w.cell? ⟨b0, i, none⟩ = some (.int .u64 (z0[i]?.getD 0)))
    (h1 : ∀ i, i < n → w.cell? ⟨b1, i, none⟩ = some (.int .i64 (z1[i]?.getD 0)))
    (h2 : ∀ i, i < n → w.cell? ⟨b2, i, none⟩ = some (.int .u64 (z2[i]?.getD 0)))
    (h3 : ∀ i, i < n → w.cell? ⟨b3, i, none⟩ = some (.int .i64 (z3[i]?.getD 0)))
    (h4 : ∀ i, i < n → w.cell? ⟨b4, i, none⟩ = some (.int .u64 (z4[i]?.getD 0)))
    (h5 : ∀ i, i < n → w.cell? ⟨b5, i, none⟩ = some (.int .i64 (z5[i]?.getD 0))) :
    Calls Try.prog 18 #[.slice (some ⟨b0, 0, none⟩) n n, .slice (some ⟨b1, 0, none⟩) n n, .slice (some ⟨b2, 0, none⟩) n n, .slice (some ⟨b3, 0, none⟩) n n, .slice (some ⟨b4, 0, none⟩) n n, .slice (some ⟨b5, 0, none⟩) n n, .int .u64 x, .int .i64 y, .int .u64 z] w
      fun e w' => e = .returned (.pointer (some ⟨w.heap.size, 0, none⟩)) ∧ ∃ v, w'.heap[w.heap.size]? = some (.cells #[v, .int .u64 x, .int .i64 y, .int .u64 z] 49 (0, 0)) ∧ w'.ownsRow (w.heap.size + 1) 53 6 v n (recs z0 z1 z2 z3 z4 z5 n) ∧ Below w.heap.size w w' := by
  go_enter Try.func18, Try.ntmps18
  go_wp2_with (go_at_call 23; refine (new_any _ _ _ _).mono ?_; rintro e w' ⟨rfl, rfl⟩)
  go_loopw [20] (fun i wr => ∃ k : Nat, k ≤ n ∧ i = .int .i64 k ∧ ∃ v, wr.heap[w.heap.size]? = some (.cells #[v, .int .u64 x, .int .i64 y, .int .u64 z] 49 (0, 0)) ∧ wr.ownsRow (w.heap.size + 1) 53 6 v k (recs z0 z1 z2 z3 z4 z5 k) ∧ Below w.heap.size w wr)
    (fun i _ => n - (intOf i).toNat)
  case atStart => exact ⟨0, Nat.zero_le _, rfl, _, heap_alloc_new w _, World.ownsRow_nil _ _ _ _, (Below.refl _ _).alloc (Nat.le_refl _) _⟩
  case round =>
    obtain ⟨k, hk, rfl, v, hL, hown, hbel⟩ := hrel
    by_cases hlt : k < n
    · have q0 := (hbel.cell (p := ⟨b0, k, none⟩) g0).trans (h0 k hlt)
      have q1 := (hbel.cell (p := ⟨b1, k, none⟩) g1).trans (h1 k hlt)
      have q2 := (hbel.cell (p := ⟨b2, k, none⟩) g2).trans (h2 k hlt)
      have q3 := (hbel.cell (p := ⟨b3, k, none⟩) g3).trans (h3 k hlt)
      have q4 := (hbel.cell (p := ⟨b4, k, none⟩) g4).trans (h4 k hlt)
      have q5 := (hbel.cell (p := ⟨b5, k, none⟩) g5).trans (h5 k hlt)
      have i0 : (0 : Int) ≤ (k : Int) := Int.natCast_nonneg _
      have i1 : (k : Int) < (n : Int) := by omega
      have HL : Hid (wr.heap[w.heap.size]? = some (.cells #[v, .int .u64 x, .int .i64 y, .int .u64 z] 49 (0, 0))) := hL
      have HO : Hid (wr.ownsRow (w.heap.size + 1) 53 6 v k (recs z0 z1 z2 z3 z4 z5 k)) := hown
      clear hL hown h0 h1 h2 h3 h4 h5
      go_wp2_with fail
      go_region_held3 (fun w' => w'.cell? ⟨b0, k, none⟩ = some (.int .u64 (z0[k]?.getD 0)) ∧ w'.cell? ⟨b1, k, none⟩ = some (.int .i64 (z1[k]?.getD 0)) ∧ w'.cell? ⟨b2, k, none⟩ = some (.int .u64 (z2[k]?.getD 0)) ∧ w'.cell? ⟨b3, k, none⟩ = some (.int .i64 (z3[k]?.getD 0)) ∧ w'.cell? ⟨b4, k, none⟩ = some (.int .u64 (z4[k]?.getD 0)) ∧ w'.cell? ⟨b5, k, none⟩ = some (.int .i64 (z5[k]?.getD 0))) (go_keep)
        (first | (go_at_call 24; refine (place_any w.heap.size k v _ _ _ _ _ _ _ _ _ _ wr.drew HL.out HO.out.drew (by omega)).mono ?_; rintro e w' ⟨rfl, v', hL', hown', hbel'⟩; have c0 := (hbel'.cell (p := ⟨b0, k, none⟩) g0).trans q0; have c1 := (hbel'.cell (p := ⟨b1, k, none⟩) g1).trans q1; have c2 := (hbel'.cell (p := ⟨b2, k, none⟩) g2).trans q2; have c3 := (hbel'.cell (p := ⟨b3, k, none⟩) g3).trans q3; have c4 := (hbel'.cell (p := ⟨b4, k, none⟩) g4).trans q4; have c5 := (hbel'.cell (p := ⟨b5, k, none⟩) g5).trans q5))
      go_wp2
      go_roundw
      case rel => exact ⟨k + 1, by omega, by go_num, v', hL', by rw [recs_succ]; exact hown', hbel.drew.trans hbel'⟩
      case measure => simp [intOf]; omega
    · go_wp2
      go_ret
      obtain rfl : k = n := by omega
      exact ⟨rfl, v, hL, hown, hbel⟩
end Go.Proofs.Qxb6601712a

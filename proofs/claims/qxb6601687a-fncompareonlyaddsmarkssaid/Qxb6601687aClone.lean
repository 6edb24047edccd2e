import Derived.Test.Qxb6601687aTrim
namespace Go.Proofs.Qxb6601687a
open Go.ChangeShapes Go.WideShapes Go.ChangeAt Go.RowKit

theorem Try.info21 : (Try.prog.info? 21).map (fun i => (i.zero, i.size, i.bytes)) = some (some (.int .i32 0), 1, 4) := by kernel_rfl
theorem Try.info4 : (Try.prog.info? 4).map (fun i => (i.zero, i.size, i.bytes)) = some (some (.bool false), 1, 1) := by kernel_rfl

/-- The slice at a reads as f. -/
def SrcA (w : World) (a : Option Addr) (n : Nat) (f : Nat → Value) : Prop := ∀ i, i < n → ∃ b o, a = some ⟨b, o, none⟩ ∧ b < w.heap.size ∧ w.cell? ⟨b, o + i, none⟩ = some (f i)
/-- The slice at a is the whole row of block b, and reads as f. -/
def RowA (w : World) (t : TypeId) (b : Nat) (a : Option Addr) (n : Nat) (f : Nat → Value) : Prop := 1 ≤ n → a = some ⟨b, 0, none⟩ ∧ w.rowIs b t n f
theorem SrcA.later {w w' : World} {a : Option Addr} {n : Nat} {f : Nat → Value} (h : SrcA w a n f) (hb : Below w.heap.size w w') : SrcA w' a n f := fun i hi => by
  obtain ⟨b, o, h1, h2, h3⟩ := h i hi
  exact ⟨b, o, h1, Nat.lt_of_lt_of_le h2 hb.size, (hb.cell (p := ⟨b, o + i, none⟩) h2).trans h3⟩
theorem RowA.src {w : World} {t : TypeId} {b : Nat} {a : Option Addr} {n : Nat} {f : Nat → Value} (h : RowA w t b a n f) : SrcA w a n f := fun i hi => by
  obtain ⟨h1, h2⟩ := h (by omega)
  exact ⟨b, 0, h1, h2.lt, by rw [Nat.zero_add]; exact h2.cell hi⟩
theorem RowA.of {w w' : World} {t : TypeId} {b : Nat} {a : Option Addr} {n : Nat} {f : Nat → Value} (h : RowA w t b a n f) (hb : 1 ≤ n → w'.heap[b]? = w.heap[b]?) : RowA w' t b a n f := fun hn => by
  obtain ⟨h1, h2⟩ := h hn
  refine ⟨h1, ?_⟩
  unfold World.rowIs at h2 ⊢
  rw [hb hn]; exact h2
theorem RowA.lt {w : World} {t : TypeId} {b : Nat} {a : Option Addr} {n : Nat} {f : Nat → Value} (h : RowA w t b a n f) (hn : 1 ≤ n) : b < w.heap.size := (h hn).2.lt
theorem RowA.later {w w' : World} {t : TypeId} {b : Nat} {a : Option Addr} {n : Nat} {f : Nat → Value} (h : RowA w t b a n f) (hb : Below w.heap.size w w') : RowA w' t b a n f :=
  h.of (fun hn => hb.block b (h.lt hn))
theorem RowA.congr {w : World} {t : TypeId} {b : Nat} {a : Option Addr} {n : Nat} {f g : Nat → Value} (h : RowA w t b a n f) (hg : ∀ i, i < n → f i = g i) : RowA w t b a n g := fun hn =>
  ⟨(h hn).1, (h hn).2.congr hg⟩

/-- one round of a clone on the world -/
theorem clone_step {wr : World} {B t n k : Nat} {g : Nat → Value} {z : Value} (hrow : wr.rowIs B t n (fun i => if i < k then g i else z)) :
    (wr.setCell ⟨B, k, none⟩ (g k)).rowIs B t n (fun i => if i < k + 1 then g i else z) := by
  refine (hrow.set k (g k)).congr ?_
  intro i _
  by_cases h : i = k
  · subst h; simp
  · simp only [if_neg h]
    by_cases h2 : i < k
    · simp [h2, show i < k + 1 by omega]
    · simp [h2, show ¬ i < k + 1 by omega]

set_option maxHeartbeats 400000 in
theorem cloneI_full (b off len cap : Nat) (zs : Nat → Int) (w : World) (hm : len ≤ 1048576) (hb : 1 ≤ len → b < w.heap.size) (spot : Option Nat) (hsp : 1 ≤ len → spot = none)
    (hcell : ∀ i, i < len → w.cell? ⟨b, off + i, none⟩ = some (.int .i32 (zs i))) :
    Calls Try.prog 13 #[.slice (some ⟨b, off, spot⟩) len cap] w fun e w' => e = .returned (.slice (some ⟨w.heap.size, 0, none⟩) len len) ∧ w'.rowIs w.heap.size 21 len (fun i => .int .i32 (zs i)) ∧ Below w.heap.size w w' := by
  have hmk := run_make_row' (P := Try.prog) 22 21 (.int .i32 0) 4 Try.underlying22 Try.info21 rfl .i64 .i64 len (by omega) (by omega)
  have hnil := fun wx n c n' c' => Lib.run_eql_slice_nil (P := Try.prog) wx 22 21 (some ⟨b, off, spot⟩) n c n' c' Try.underlying22
  go_enter Try.func13, Try.ntmps13
  go_wp2
  have hrow0 := World.rowIs_made w (.int .i32 0) len 21
  go_loopw [4] (fun i wr => ∃ k : Nat, k ≤ len ∧ i = .int .i64 k ∧ wr.rowIs w.heap.size 21 len (fun j => if j < k then .int .i32 (zs j) else .int .i32 0) ∧ Below w.heap.size w wr)
    (fun i _ => len - (intOf i).toNat)
  case atStart => exact ⟨0, Nat.zero_le _, rfl, hrow0.congr (by simp), (Below.refl _ _).alloc (Nat.le_refl _) _⟩
  case round =>
    obtain ⟨k, hk, rfl, hrow, hbel⟩ := hrel
    clear hrow0
    by_cases hlt : k < len
    · obtain rfl := hsp (by omega)
      have hc : wr.cell? ⟨b, off + k, none⟩ = some (.int .i32 (zs k)) := (hbel.cell (p := ⟨b, off + k, none⟩) (hb (by omega))).trans (hcell k hlt)
      have hc2 : wr.cell? ⟨w.heap.size, k, none⟩ = some (.int .i32 0) := by rw [hrow.cell hlt]; simp
      have hf2 : wr.frozen? ⟨w.heap.size, k, none⟩ = false := hrow.frozen k
      have R := clone_step (g := fun j => .int .i32 (zs j)) hrow
      go_wp2
      go_roundw
      case rel => exact ⟨k + 1, by omega, by go_num, R, hbel.setCell (Nat.le_refl _) _⟩
      case measure => simp [intOf]; omega
    · go_wp2
      go_ret
      exact ⟨rfl, hrow.congr (by intro i hi; simp [show i < k by omega]), hbel⟩
theorem cloneI_nil (len cap : Nat) (w : World) : Calls Try.prog 13 #[.slice none len cap] w fun e w' => e = .returned (.slice none 0 0) ∧ w' = w := by
  have hnil := fun wx n c n' c' => Lib.run_eql_slice_nil (P := Try.prog) wx 22 21 none n c n' c' Try.underlying22
  go_enter Try.func13, Try.ntmps13
  go_wp2
  go_ret
  exact ⟨rfl, rfl⟩
theorem cloneI_any (a : Option Addr) (len cap : Nat) (zs : Nat → Int) (w : World) (hm : len ≤ 1048576) (hs : SrcA w a len (fun i => .int .i32 (zs i))) :
    Calls Try.prog 13 #[.slice a len cap] w fun e w' => ∃ a', e = .returned (.slice a' len len) ∧ RowA w' 21 w.heap.size a' len (fun i => .int .i32 (zs i)) ∧ Below w.heap.size w w' := by
  cases a with
  | none =>
    obtain rfl : len = 0 := by
      by_cases h : len = 0
      · exact h
      · obtain ⟨_, _, h1, _⟩ := hs 0 (by omega)
        exact absurd h1 (by simp)
    refine (cloneI_nil 0 cap w).mono ?_
    rintro e w' ⟨rfl, rfl⟩
    exact ⟨none, rfl, fun h => absurd h (by omega), Below.refl _ _⟩
  | some x =>
    obtain ⟨b, off, spot⟩ := x
    refine (cloneI_full b off len cap zs w hm (fun h => ?_) spot (fun h => ?_) (fun i hi => ?_)).mono ?_
    rotate_right
    · rintro e w' ⟨rfl, h2, h3⟩
      exact ⟨_, rfl, fun _ => ⟨rfl, h2⟩, h3⟩
    · obtain ⟨b', o', h1, h2, h3⟩ := hs 0 (by omega)
      simp only [Option.some.injEq, Addr.mk.injEq] at h1
      rw [h1.1]; exact h2
    · obtain ⟨b', o', h1, h2, h3⟩ := hs 0 (by omega)
      simp only [Option.some.injEq, Addr.mk.injEq] at h1
      exact h1.2.2
    · obtain ⟨b', o', h1, h2, h3⟩ := hs i hi
      simp only [Option.some.injEq, Addr.mk.injEq] at h1
      rw [h1.1, h1.2.1]; exact h3

set_option maxHeartbeats 400000 in
theorem cloneB_full (b off len cap : Nat) (zs : Nat → Bool) (w : World) (hm : len ≤ 1048576) (hb : 1 ≤ len → b < w.heap.size) (spot : Option Nat) (hsp : 1 ≤ len → spot = none)
    (hcell : ∀ i, i < len → w.cell? ⟨b, off + i, none⟩ = some (.bool (zs i))) :
    Calls Try.prog 19 #[.slice (some ⟨b, off, spot⟩) len cap] w fun e w' => e = .returned (.slice (some ⟨w.heap.size, 0, none⟩) len len) ∧ w'.rowIs w.heap.size 4 len (fun i => .bool (zs i)) ∧ Below w.heap.size w w' := by
  have hmk := run_make_row' (P := Try.prog) 25 4 (.bool false) 1 Try.underlying25 Try.info4 rfl .i64 .i64 len (by omega) (by omega)
  have hnil := fun wx n c n' c' => Lib.run_eql_slice_nil (P := Try.prog) wx 25 4 (some ⟨b, off, spot⟩) n c n' c' Try.underlying25
  go_enter Try.func19, Try.ntmps19
  go_wp2
  have hrow0 := World.rowIs_made w (.bool false) len 4
  go_loopw [4] (fun i wr => ∃ k : Nat, k ≤ len ∧ i = .int .i64 k ∧ wr.rowIs w.heap.size 4 len (fun j => if j < k then .bool (zs j) else .bool false) ∧ Below w.heap.size w wr)
    (fun i _ => len - (intOf i).toNat)
  case atStart => exact ⟨0, Nat.zero_le _, rfl, hrow0.congr (by simp), (Below.refl _ _).alloc (Nat.le_refl _) _⟩
  case round =>
    obtain ⟨k, hk, rfl, hrow, hbel⟩ := hrel
    clear hrow0
    by_cases hlt : k < len
    · obtain rfl := hsp (by omega)
      have hc : wr.cell? ⟨b, off + k, none⟩ = some (.bool (zs k)) := (hbel.cell (p := ⟨b, off + k, none⟩) (hb (by omega))).trans (hcell k hlt)
      have hc2 : wr.cell? ⟨w.heap.size, k, none⟩ = some (.bool false) := by rw [hrow.cell hlt]; simp
      have hf2 : wr.frozen? ⟨w.heap.size, k, none⟩ = false := hrow.frozen k
      have R := clone_step (g := fun j => .bool (zs j)) hrow
      go_wp2
      go_roundw
      case rel => exact ⟨k + 1, by omega, by go_num, R, hbel.setCell (Nat.le_refl _) _⟩
      case measure => simp [intOf]; omega
    · go_wp2
      go_ret
      exact ⟨rfl, hrow.congr (by intro i hi; simp [show i < k by omega]), hbel⟩
theorem cloneB_nil (len cap : Nat) (w : World) : Calls Try.prog 19 #[.slice none len cap] w fun e w' => e = .returned (.slice none 0 0) ∧ w' = w := by
  have hnil := fun wx n c n' c' => Lib.run_eql_slice_nil (P := Try.prog) wx 25 4 none n c n' c' Try.underlying25
  go_enter Try.func19, Try.ntmps19
  go_wp2
  go_ret
  exact ⟨rfl, rfl⟩
theorem cloneB_any (a : Option Addr) (len cap : Nat) (zs : Nat → Bool) (w : World) (hm : len ≤ 1048576) (hs : SrcA w a len (fun i => .bool (zs i))) :
    Calls Try.prog 19 #[.slice a len cap] w fun e w' => ∃ a', e = .returned (.slice a' len len) ∧ RowA w' 4 w.heap.size a' len (fun i => .bool (zs i)) ∧ Below w.heap.size w w' := by
  cases a with
  | none =>
    obtain rfl : len = 0 := by
      by_cases h : len = 0
      · exact h
      · obtain ⟨_, _, h1, _⟩ := hs 0 (by omega)
        exact absurd h1 (by simp)
    refine (cloneB_nil 0 cap w).mono ?_
    rintro e w' ⟨rfl, rfl⟩
    exact ⟨none, rfl, fun h => absurd h (by omega), Below.refl _ _⟩
  | some x =>
    obtain ⟨b, off, spot⟩ := x
    refine (cloneB_full b off len cap zs w hm (fun h => ?_) spot (fun h => ?_) (fun i hi => ?_)).mono ?_
    rotate_right
    · rintro e w' ⟨rfl, h2, h3⟩
      exact ⟨_, rfl, fun _ => ⟨rfl, h2⟩, h3⟩
    · obtain ⟨b', o', h1, h2, h3⟩ := hs 0 (by omega)
      simp only [Option.some.injEq, Addr.mk.injEq] at h1
      rw [h1.1]; exact h2
    · obtain ⟨b', o', h1, h2, h3⟩ := hs 0 (by omega)
      simp only [Option.some.injEq, Addr.mk.injEq] at h1
      exact h1.2.2
    · obtain ⟨b', o', h1, h2, h3⟩ := hs i hi
      simp only [Option.some.injEq, Addr.mk.injEq] at h1
      rw [h1.1, h1.2.1]; exact h3

set_option maxHeartbeats 1000000 in
/-- The guard on sizes: it answers and leaves memory alone. -/
theorem bytes_any (a0 a1 a2 a3 : Option Addr) (l0 l1 l2 l3 c0 c1 c2 c3 : Nat) (x y z u : Int) (w : World) :
    Calls Try.prog 18 #[.slice a0 l0 c0, .slice a1 l1 c1, .slice a2 l2 c2, .slice a3 l3 c3, .int .i64 x, .int .i64 y, .int .i64 z, .int .i64 u] w fun e w' => (∃ r, e = .returned (.bool r)) ∧ w' = w := by
  go_enter Try.func18, Try.ntmps18
  go_wp2
  all_goals (go_ret; exact ⟨⟨_, rfl⟩, rfl⟩)

set_option maxHeartbeats 1000000 in
/-- The ranges fit. -/
theorem fit_any (a0 a1 : Option Addr) (l0 l1 c0 c1 : Nat) (x y z u : Int) (w : World) :
    Calls Try.prog 12 #[.slice a0 l0 c0, .slice a1 l1 c1, .int .i64 x, .int .i64 y, .int .i64 z, .int .i64 u] w fun e w' => (e = .returned (.bool false) ∨ e = .returned (.bool true) ∧ 0 ≤ x ∧ x ≤ y ∧ y ≤ l0 ∧ 0 ≤ z ∧ z ≤ u ∧ u ≤ l1) ∧ w' = w := by
  go_enter Try.func12, Try.ntmps12
  by_cases k0 : 0 ≤ x
  rotate_left
  · go_wp2; go_ret; exact ⟨Or.inl rfl, rfl⟩
  by_cases k1 : x ≤ y
  rotate_left
  · go_wp2; go_ret; exact ⟨Or.inl rfl, rfl⟩
  by_cases k2 : y ≤ (l0 : Int)
  rotate_left
  · go_wp2; go_ret; exact ⟨Or.inl rfl, rfl⟩
  by_cases k3 : 0 ≤ z
  rotate_left
  · go_wp2; go_ret; exact ⟨Or.inl rfl, rfl⟩
  by_cases k4 : z ≤ u
  rotate_left
  · go_wp2; go_ret; exact ⟨Or.inl rfl, rfl⟩
  by_cases k5 : u ≤ (l1 : Int)
  rotate_left
  · go_wp2; go_ret; exact ⟨Or.inl rfl, rfl⟩
  go_wp2; go_ret; exact ⟨Or.inr ⟨rfl, k0, k1, k2, k3, k4, k5⟩, rfl⟩
end Go.Proofs.Qxb6601687a

/-
  Rows and growing slices in memory; the copies of the graph.
-/
import Derived.Test.Qxb6601852aFront
import Derived.Lib.JoinLaws
import Derived.Deep.AppendLies
namespace Go.Proofs.Qxb6601852a
open Go.ChangeShapes Go.WideShapes Go.ChangeAt Go.RowKit

theorem Try.info3 : (Try.prog.info? 3).map (fun i => (i.zero, i.size, i.bytes)) = some (some (.int .i64 0), 1, 8) := by kernel_rfl
theorem Try.info4 : (Try.prog.info? 4).map (fun i => (i.zero, i.size, i.bytes)) = some (some (.bool false), 1, 1) := by kernel_rfl
theorem Try.info28 : (Try.prog.info? 28).map (fun i => (i.zero, i.size, i.bytes)) = some (some (.slice none 0 0), 1, 24) := by kernel_rfl

/-- The slice at a is the whole row of block b, and reads as f. -/
def RowA (w : World) (t : TypeId) (b : Nat) (a : Option Addr) (n : Nat) (f : Nat → Value) : Prop := 1 ≤ n → a = some ⟨b, 0, none⟩ ∧ w.rowIs b t n f
theorem rowIs_of {w w' : World} {t : TypeId} {b n : Nat} {f : Nat → Value} (h : w.rowIs b t n f) (hb : w'.heap[b]? = w.heap[b]?) : w'.rowIs b t n f := by
  unfold World.rowIs at h ⊢
  rw [hb]; exact h

/-- one round of a clone on the world -/
theorem clone_step {wr : World} {B t n k : Nat} {g : Nat → Value} {z : Value} (hrow : wr.rowIs B t n (fun i => if i < k then g i else z)) :
    (wr.setCell ⟨B, k, none⟩ (g k)).rowIs B t n (fun i => if i < k + 1 then g i else z) := by
  refine (hrow.set k (g k)).congr ?_
  intro i _
  by_cases h : i = k
  · subst h; simp
  · simp only [if_neg h]
    by_cases h2 : i < k
    · simp [h2, show i < k + 1 by omega]
    · simp [h2, show ¬ i < k + 1 by omega]

set_option maxHeartbeats 400000 in
theorem cloneI_full (b off len cap : Nat) (zs : Nat → Int) (w : World) (hm : len ≤ 1048576) (hb : 1 ≤ len → b < w.heap.size) (spot : Option Nat) (hsp : 1 ≤ len → spot = none)
    (hcell : ∀ i, i < len → w.cell? ⟨b, off + i, none⟩ = some (.int .i64 (zs i))) :
    Calls Try.prog 26 #[.slice (some ⟨b, off, spot⟩) len cap] w fun e w' => e = .returned (.slice (some ⟨w.heap.size, 0, none⟩) len len) ∧ w'.rowIs w.heap.size 3 len (fun i => .int .i64 (zs i)) ∧ Below w.heap.size w w' := by
  have hmk := run_make_row' (P := Try.prog) 28 3 (.int .i64 0) 8 Try.underlying28 Try.info3 rfl .i64 .i64 len (by omega) (by omega)
  have hnil := fun wx n c n' c' => Lib.run_eql_slice_nil (P := Try.prog) wx 28 3 (some ⟨b, off, spot⟩) n c n' c' Try.underlying28
  go_enter Try.func26, Try.ntmps26
  go_wp2
  have hrow0 := World.rowIs_made w (.int .i64 0) len 3
  go_loopw [4] (fun i wr => ∃ k : Nat, k ≤ len ∧ i = .int .i64 k ∧ wr.rowIs w.heap.size 3 len (fun j => if j < k then .int .i64 (zs j) else .int .i64 0) ∧ Below w.heap.size w wr)
    (fun i _ => len - (intOf i).toNat)
  case atStart => exact ⟨0, Nat.zero_le _, rfl, hrow0.congr (by simp), (Below.refl _ _).alloc (Nat.le_refl _) _⟩
  case round =>
    obtain ⟨k, hk, rfl, hrow, hbel⟩ := hrel
    clear hrow0
    by_cases hlt : k < len
    · obtain rfl := hsp (by omega)
      have hc : wr.cell? ⟨b, off + k, none⟩ = some (.int .i64 (zs k)) := (hbel.cell (p := ⟨b, off + k, none⟩) (hb (by omega))).trans (hcell k hlt)
      have hc2 : wr.cell? ⟨w.heap.size, k, none⟩ = some (.int .i64 0) := by rw [hrow.cell hlt]; simp
      have hf2 : wr.frozen? ⟨w.heap.size, k, none⟩ = false := hrow.frozen k
      have R := clone_step (g := fun j => .int .i64 (zs j)) hrow
      go_wp2
      go_roundw
      case rel => exact ⟨k + 1, by omega, by go_num, R, hbel.setCell (Nat.le_refl _) _⟩
      case measure => simp [intOf]; omega
    · go_wp2
      go_ret
      exact ⟨rfl, hrow.congr (by intro i hi; simp [show i < k by omega]), hbel⟩
theorem cloneI_nil (len cap : Nat) (w : World) : Calls Try.prog 26 #[.slice none len cap] w fun e w' => e = .returned (.slice none 0 0) ∧ w' = w := by
  have hnil := fun wx n c n' c' => Lib.run_eql_slice_nil (P := Try.prog) wx 28 3 none n c n' c' Try.underlying28
  go_enter Try.func26, Try.ntmps26
  go_wp2
  go_ret
  exact ⟨rfl, rfl⟩
theorem cloneI_any (a : Option Addr) (len cap : Nat) (zs : Nat → Int) (w : World) (hm : len ≤ 1048576) (hs : SrcA w a len (fun i => .int .i64 (zs i))) :
    Calls Try.prog 26 #[.slice a len cap] w fun e w' => ∃ a', e = .returned (.slice a' len len) ∧ RowA w' 3 w.heap.size a' len (fun i => .int .i64 (zs i)) ∧ Below w.heap.size w w' := by
  cases a with
  | none =>
    obtain rfl : len = 0 := by
      by_cases h : len = 0
      · exact h
      · obtain ⟨_, _, h1, _⟩ := hs 0 (by omega)
        exact absurd h1 (by simp)
    refine (cloneI_nil 0 cap w).mono ?_
    rintro e w' ⟨rfl, rfl⟩
    exact ⟨none, rfl, fun h => absurd h (by omega), Below.refl _ _⟩
  | some x =>
    obtain ⟨b, off, spot⟩ := x
    refine (cloneI_full b off len cap zs w hm (fun h => ?_) spot (fun h => ?_) (fun i hi => ?_)).mono ?_
    rotate_right
    · rintro e w' ⟨rfl, h2, h3⟩
      exact ⟨_, rfl, fun _ => ⟨rfl, h2⟩, h3⟩
    · obtain ⟨b', o', h1, h2, h3⟩ := hs 0 (by omega)
      simp only [Option.some.injEq, Addr.mk.injEq] at h1
      rw [h1.1]; exact h2
    · obtain ⟨b', o', h1, h2, h3⟩ := hs 0 (by omega)
      simp only [Option.some.injEq, Addr.mk.injEq] at h1
      exact h1.2.2
    · obtain ⟨b', o', h1, h2, h3⟩ := hs i hi
      simp only [Option.some.injEq, Addr.mk.injEq] at h1
      rw [h1.1, h1.2.1]; exact h3

/-- Graph g of n lists lies at slice a (the whole of block B); its entries are vertices. -/
structure Gm (w : World) (a : Option Addr) (B n : Nat) (A : Nat → Option Addr) (L C : Nat → Nat) (e : Nat → Nat → Nat) : Prop where
  row : ∀ r, r < n → a = some ⟨B, 0, none⟩ ∧ B < w.heap.size ∧ w.cell? ⟨B, r, none⟩ = some (.slice (A r) (L r) (C r))
  ent : ∀ r, r < n → ∀ k, k < L r → ∃ b, A r = some ⟨b, 0, none⟩ ∧ b < w.heap.size ∧ w.cell? ⟨b, k, none⟩ = some (.int .i64 (e r k))
theorem Gm.later {w w' : World} {a : Option Addr} {B n : Nat} {A : Nat → Option Addr} {L C : Nat → Nat} {e : Nat → Nat → Nat} (h : Gm w a B n A L C e) (hb : Below w.heap.size w w') : Gm w' a B n A L C e :=
  ⟨fun r hr => ⟨(h.row r hr).1, Nat.lt_of_lt_of_le (h.row r hr).2.1 hb.size, (hb.cell (p := ⟨B, r, none⟩) (h.row r hr).2.1).trans (h.row r hr).2.2⟩,
   fun r hr k hk => by
    obtain ⟨b, h1, h2, h3⟩ := h.ent r hr k hk
    exact ⟨b, h1, Nat.lt_of_lt_of_le h2 hb.size, (hb.cell (p := ⟨b, k, none⟩) h2).trans h3⟩⟩
theorem Gm.at {w : World} {a : Option Addr} {B n : Nat} {A : Nat → Option Addr} {L C : Nat → Nat} {e : Nat → Nat → Nat} (h : Gm w a B n A L C e) {r k : Nat} (hr : r < n) (hk : k < L r) :
    ∃ b, w.cell? ⟨B, r, none⟩ = some (.slice (some ⟨b, 0, none⟩) (L r) (C r)) ∧ w.cell? ⟨b, k, none⟩ = some (.int .i64 (e r k)) := by
  obtain ⟨b, h1, h2, h3⟩ := h.ent r hr k hk
  exact ⟨b, by rw [← h1]; exact (h.row r hr).2.2, h3⟩

set_option maxHeartbeats 1000000 in
theorem cloneG_full (b off n cap : Nat) (spot : Option Nat) (A : Nat → Option Addr) (L C : Nat → Nat) (Z : Nat → Nat → Int) (e : Nat → Nat → Nat) (w : World)
    (hG : InG w (some ⟨b, off, spot⟩) n A L C Z) (hn : n ≤ 4096) (hL : Hid (∀ r, r < n → L r ≤ 131072)) (hZ : Hid (∀ r, r < n → ∀ k, k < L r → Z r k = e r k)) :
    Calls Try.prog 12 #[.slice (some ⟨b, off, spot⟩) n cap] w fun en w' => ∃ A', en = .returned (.slice (some ⟨w.heap.size, 0, none⟩) n n) ∧ Gm w' (some ⟨w.heap.size, 0, none⟩) w.heap.size n A' L L e ∧ Below w.heap.size w w' := by
  have hmk := run_make_row' (P := Try.prog) 22 28 (.slice none 0 0) 24 Try.underlying22 Try.info28 rfl .i64 .i64 n (by omega) (by omega)
  have hnil := fun wx n c n' c' => Lib.run_eql_slice_nil (P := Try.prog) wx 22 28 (some ⟨b, off, spot⟩) n c n' c' Try.underlying22
  go_enter Try.func12, Try.ntmps12
  go_wp2_with fail
  have hrow0 := World.rowIs_made w (.slice none 0 0) n 28
  go_loopg [4] n (fun g i wr => ∃ (k : Nat) (A' : Nat → Option Addr), k ≤ n ∧ i = .int .i64 k ∧ g = n - k ∧ wr.rowIs w.heap.size 28 n (fun j => if j < k then .slice (A' j) (L j) (L j) else .slice none 0 0) ∧ Below w.heap.size w wr ∧ w.heap.size < wr.heap.size ∧
    Hid (∀ r, r < k → ∀ j, j < L r → ∃ b, A' r = some ⟨b, 0, none⟩ ∧ w.heap.size < b ∧ b < wr.heap.size ∧ wr.cell? ⟨b, j, none⟩ = some (.int .i64 (e r j))))
  case atStart => exact ⟨0, fun _ => none, Nat.zero_le _, rfl, rfl, hrow0.congr (by simp), (Below.refl _ _).alloc (Nat.le_refl _) _, by simp, fun r hr => absurd hr (by omega)⟩
  case round =>
    obtain ⟨k, A', hk, rfl, hg, hrow, hbel, hsz, hdone⟩ := hrel
    clear hrow0 hmk
    by_cases hlt : (k : Int) < n
    · have hk' : k < n := by omega
      obtain ⟨b', o', hbo, hb', hc'⟩ := hG.rows k hk'
      simp only [Option.some.injEq, Addr.mk.injEq] at hbo
      obtain ⟨rfl, rfl, rfl⟩ := hbo
      have hc : wr.cell? ⟨b, off + k, none⟩ = some (.slice (A k) (L k) (C k)) := (hbel.cell (p := ⟨b, off + k, none⟩) hb').trans hc'
      have hLk := hL.out k hk'
      have hsrc : SrcA wr (A k) (L k) (fun j => .int .i64 (Z k j)) := (hG.cells k hk').later hbel
      go_wp2_with fail
      refine (cloneI_any (A k) (L k) (C k) (Z k) wr (by omega) hsrc).mono ?_
      rintro en w2 ⟨a2, rfl, hr2, hb2⟩
      have hrow2 : w2.rowIs w.heap.size 28 n (fun j => if j < k then .slice (A' j) (L j) (L j) else .slice none 0 0) := rowIs_of hrow (hb2.block _ hsz)
      have hc2 : w2.cell? ⟨w.heap.size, k, none⟩ = some (.slice none 0 0) := by rw [hrow2.cell hk']; simp
      have hf2 : w2.frozen? ⟨w.heap.size, k, none⟩ = false := hrow2.frozen k
      have hs2 := hb2.size
      have hbel2 : Below w.heap.size w w2 := hbel.trans (hb2.mono (by omega))
      have R : (w2.setCell ⟨w.heap.size, k, none⟩ (.slice a2 (L k) (L k))).rowIs w.heap.size 28 n (fun j => if j < k + 1 then .slice (Gr.upd A' k a2 j) (L j) (L j) else .slice none 0 0) := by
        have := clone_step (g := fun j => .slice (Gr.upd A' k a2 j) (L j) (L j)) (k := k) (z := .slice none 0 0) (hrow2.congr (fun j _ => by
          by_cases h : j < k
          · simp [h, Gr.upd_other A' a2 (show j ≠ k by omega)]
          · simp [h]))
        rwa [Gr.upd_same] at this
      have hdone2 : Hid (∀ r, r < k + 1 → ∀ j, j < L r → ∃ b, Gr.upd A' k a2 r = some ⟨b, 0, none⟩ ∧ w.heap.size < b ∧ b < (w2.setCell ⟨w.heap.size, k, none⟩ (.slice a2 (L k) (L k))).heap.size ∧ (w2.setCell ⟨w.heap.size, k, none⟩ (.slice a2 (L k) (L k))).cell? ⟨b, j, none⟩ = some (.int .i64 (e r j))) := fun r hr j hj => by
        by_cases h : r = k
        · subst h
          obtain ⟨h1, h2⟩ := hr2 (by omega)
          refine ⟨wr.heap.size, by rw [Gr.upd_same]; exact h1, hsz, by simpa [World.setCell] using h2.lt, ?_⟩
          have h3 : (w2.setCell ⟨w.heap.size, r, none⟩ (.slice a2 (L r) (L r))).rowIs wr.heap.size 3 (L r) (fun j => .int .i64 (Z r j)) := h2.setOther (by simp only; omega) _
          rw [h3.cell hj, hZ.out r hk' j hj]
        · obtain ⟨b3, h1, h2, h3, h4⟩ := hdone.out r (by omega) j hj
          refine ⟨b3, by rw [Gr.upd_other _ _ h]; exact h1, h2, by simp [World.setCell]; omega, ?_⟩
          rw [World.cell?_of_block (w := w2) (a := ⟨b3, j, none⟩) (Below.heap_setCell _ _ _ _ (by simp only; omega)), hb2.cell (p := ⟨b3, j, none⟩) h3]
          exact h4
      clear hrow hbel hdone hrow2 hsrc hc hb2 hr2
      go_wp2
      go_roundg (n - (k + 1))
      case measure => omega
      case rel => exact ⟨k + 1, Gr.upd A' k a2, by omega, by go_num, rfl, R, hbel2.setCell (Nat.le_refl _) _, by simp [World.setCell]; omega, hdone2⟩
    · obtain rfl : k = n := by omega
      go_wp2
      go_ret
      refine ⟨rfl, ⟨A', fun r hr => ⟨rfl, hsz, by rw [hrow.cell hr]; simp [hr]⟩, fun r hr j hj => ?_⟩, hbel⟩
      obtain ⟨b3, h1, h2, h3, h4⟩ := hdone.out r hr j hj
      exact ⟨b3, h1, h3, h4⟩
theorem cloneG_nil (n cap : Nat) (w : World) : Calls Try.prog 12 #[.slice none n cap] w fun e w' => e = .returned (.slice none 0 0) ∧ w' = w := by
  have hnil := fun wx n c n' c' => Lib.run_eql_slice_nil (P := Try.prog) wx 22 28 none n c n' c' Try.underlying22
  go_enter Try.func12, Try.ntmps12
  go_wp2
  go_ret
  exact ⟨rfl, rfl⟩
/-- The copy of the graph. -/
theorem cloneG_any (a : Option Addr) (n cap : Nat) (A : Nat → Option Addr) (L C : Nat → Nat) (Z : Nat → Nat → Int) (e : Nat → Nat → Nat) (w : World)
    (hG : InG w a n A L C Z) (hn : n ≤ 4096) (hL : Hid (∀ r, r < n → L r ≤ 131072)) (hZ : Hid (∀ r, r < n → ∀ k, k < L r → Z r k = e r k)) :
    Calls Try.prog 12 #[.slice a n cap] w fun en w' => ∃ a' A', en = .returned (.slice a' n n) ∧ Gm w' a' w.heap.size n A' L L e ∧ Below w.heap.size w w' := by
  cases a with
  | none =>
    obtain rfl : n = 0 := by
      by_cases h : n = 0
      · exact h
      · obtain ⟨_, _, h1, _⟩ := hG.rows 0 (by omega)
        exact absurd h1 (by simp)
    refine (cloneG_nil 0 cap w).mono ?_
    rintro en w' ⟨rfl, rfl⟩
    exact ⟨none, fun _ => none, rfl, ⟨fun r hr => absurd hr (by omega), fun r hr => absurd hr (by omega)⟩, Below.refl _ _⟩
  | some x =>
    obtain ⟨b, off, spot⟩ := x
    refine (cloneG_full b off n cap spot A L C Z e w hG hn hL hZ).mono ?_
    rintro en w' ⟨A', rfl, h1, h2⟩
    exact ⟨_, A', rfl, h1, h2⟩

theorem info_parts {e : TypeId} {z : Value} {size bytes : Nat} (h : (Try.prog.info? e).map (fun i => (i.zero, i.size, i.bytes)) = some (some z, size, bytes)) :
    ∃ i, Try.prog.info? e = some i ∧ i.zero = some z ∧ i.size = size ∧ i.bytes = bytes := by
  obtain ⟨i, hi, h2⟩ := Option.map_eq_some_iff.1 h
  simp only [Prod.mk.injEq] at h2
  exact ⟨i, hi, h2.1, h2.2.1, h2.2.2⟩

/-- The slice at a, of length m, is the call's own and reads as f: a slice of integers that grows. -/
def Vec (w : World) (N : Nat) (a : Option Addr) (m cap : Nat) (f : Nat → Int) : Prop := w.ownsRow N 3 1 (.slice a m cap) m ((List.range m).map (fun i => Value.int .i64 (f i)))
def ob (a : Option Addr) : Option Nat := a.map (fun x => x.block)
theorem ownBlock_slice (a : Option Addr) (m cap : Nat) : (Value.slice a m cap).ownBlock = ob a := by cases a <;> rfl

theorem Vec.cell {w : World} {N g m cap : Nat} {f : Nat → Int} (h : Vec w N (some ⟨g, 0, none⟩) m cap f) {i : Nat} (hi : i < m) : w.cell? ⟨g, i, none⟩ = some (.int .i64 (f i)) := by
  rw [World.ownsRow.cellAt h i (by omega)]
  simp [hi]
theorem Vec.form {w : World} {N m cap : Nat} {a : Option Addr} {f : Nat → Int} (h : Vec w N a m cap f) (hm : 1 ≤ m) : ∃ g, a = some ⟨g, 0, none⟩ ∧ N ≤ g ∧ g < w.heap.size := by
  obtain ⟨g, c, h1, h2, h3⟩ := World.ownsRow.form h hm
  simp only [Value.slice.injEq] at h1
  exact ⟨g, h1.1, h2, h3⟩
theorem Vec.lt {w : World} {N m cap : Nat} {a : Option Addr} {f : Nat → Int} (h : Vec w N a m cap f) : ∀ k, ob a = some k → N ≤ k ∧ k < w.heap.size := fun k hk => World.ownsRow.lt h k (by rw [ownBlock_slice]; exact hk)
theorem Vec.of {w w' : World} {N m cap : Nat} {a : Option Addr} {f : Nat → Int} (h : Vec w N a m cap f) (hb : ∀ k, ob a = some k → w'.heap[k]? = w.heap[k]?) : Vec w' N a m cap f := by
  refine ⟨h.1, ?_⟩
  rcases h.2 with h1 | ⟨g, c, cur, h1, h2, h3, h4⟩
  · exact Or.inl h1
  · refine Or.inr ⟨g, c, cur, h1, h2, ?_, h4⟩
    rw [hb g (by simp only [Value.slice.injEq] at h1; rw [h1.1]; rfl)]
    exact h3
theorem Vec.congr {w : World} {N m cap : Nat} {a : Option Addr} {f f' : Nat → Int} (h : Vec w N a m cap f) (hf : ∀ i, i < m → f i = f' i) : Vec w N a m cap f' := by
  unfold Vec at h ⊢
  rw [show (List.range m).map (fun i => Value.int .i64 (f' i)) = (List.range m).map (fun i => Value.int .i64 (f i)) from List.map_congr_left (fun i hi => by rw [hf i (List.mem_range.1 hi)])]
  exact h
theorem Vec.nil (w : World) (N : Nat) (f : Nat → Int) : Vec w N none 0 0 f := World.ownsRow_nil w N 3 1
theorem Vec.room (w : World) (N c : Nat) (hN : N ≤ w.heap.size) (hc : c ≤ 1073741824) (f : Nat → Int) : Vec (w.alloc (.cells (madeCells #[.int .i64 0] c) 3)) N (some ⟨w.heap.size, 0, none⟩) 0 c f :=
  World.ownsRow_made w _ c hN (by unfold maxLen; omega) (by rw [size_madeCells]; omega)
/-- One literal element. -/
theorem Vec.one (w : World) (N : Nat) (hN : N ≤ w.heap.size) (x : Int) : Vec (w.alloc (.cells #[.int .i64 x] 3)) N (some ⟨w.heap.size, 0, none⟩) 1 1 (fun _ => x) :=
  World.ownsRow_lit w _ 1 hN (by unfold maxLen; omega) (by rfl)
/-- A shorter slice of the same row. -/
theorem Vec.take {w : World} {N g m cap k : Nat} {f : Nat → Int} (h : Vec w N (some ⟨g, 0, none⟩) m cap f) (hk : k ≤ m) : Vec w N (some ⟨g, 0, none⟩) k cap f := by
  obtain ⟨h0, h1⟩ := h
  refine ⟨by simp, ?_⟩
  rcases h1 with ⟨h1, _⟩ | ⟨g', c, cur, h1, h2, h3, h4, h5, h6, h7⟩
  · simp at h1
  · simp only [Value.slice.injEq, Option.some.injEq, Addr.mk.injEq, and_true, true_and] at h1
    obtain ⟨rfl, rfl⟩ := h1
    refine Or.inr ⟨g, cap, cur, rfl, h2, h3, by omega, h5, h6, ?_⟩
    have : cur.toList.take (k * 1) = (cur.toList.take (m * 1)).take k := by rw [List.take_take]; congr 1; omega
    rw [this, h7, ← List.map_take, List.take_range]
    rw [Nat.min_eq_left hk]

/-- What an append of one leaves. -/
structure Pushed (w w1 : World) (N : Nat) (a : Option Addr) (g m cap : Nat) (f : Nat → Int) (x : Int) : Prop where
  vec : Vec w1 N (some ⟨g, 0, none⟩) (m + 1) cap (Gr.upd f m x)
  os : w1.os = w.os
  tape : w1.tape = w.tape
  output : w1.output = w.output
  size : w.heap.size < w1.heap.size
  block : ∀ k, k < w.heap.size → ob a ≠ some k → w1.heap[k]? = w.heap[k]?
  loc : ob a = some g ∨ w.heap.size < g
  lt : g < w1.heap.size
theorem Pushed.below {w w1 : World} {N : Nat} {a : Option Addr} {g m cap : Nat} {f : Nat → Int} {x : Int} (h : Pushed w w1 N a g m cap f x) (ha : ∀ k, ob a = some k → N ≤ k) (hN : N ≤ w.heap.size) : Below N w w1 :=
  ⟨h.os, h.tape, h.output, Nat.le_of_lt h.size, fun k hk => h.block k (by omega) (fun e => by have := ha k e; omega)⟩

theorem push_law {ops : Array Oper} {rest : List Oper} {o : Oper} {act : Act} {Q : Exit → Act → World → Prop} (hgd : o.guard = none) (s x : Operand)
    (ho : o.op = .call { callee := .builtin .append, args := #[s, x], argTypes := #[28, 28] }) {w : World} {N : Nat} {a : Option Addr} {m cap : Nat} {f : Nat → Int} (hv : Vec w N a m cap f) (x0 : Int)
    (hs : act.eval s = .slice a m cap) (H : Nat) (hH : w.heap.size = H) (hx : act.eval x = .slice (some ⟨H, 0, none⟩) 1 1) (hm : m ≤ 1073741824) (hN : N ≤ w.heap.size)
    (h : ∀ g cap' w1, Pushed w w1 N a g m cap' f x0 → wpList Try.prog ops Q rest (act.put o.dst (.slice (some ⟨g, 0, none⟩) (m + 1) cap')) w1) :
    wpList Try.prog ops Q (o :: rest) act (w.alloc (.cells #[.int .i64 x0] 3)) := by
  subst hH
  obtain ⟨i0, hi, hz0, hz1, hz2⟩ := info_parts Try.info3
  refine wpList_append_lies _ hgd s x 28 ho N 3 i0 _ 1 8 Try.underlying28 hi hz0 hz1 hz2 rfl (by omega) (.slice a m cap) m _ hs (World.ownsRow.alloc hv _) ⟨w.heap.size, 0, none⟩ 1 1 [.int .i64 x0] hx (by rfl) (World.news_of_block (heap_alloc_new w _)) (fun u hu => by simp at hu; rw [hu]; rfl) (by omega) (by unfold maxLen; omega) (by omega) (by simp; omega) (w.heap.size + 1) (by simp) ?_
  intro g cap' w1 hown hgrow hat hlt
  rw [ownBlock_slice] at hgrow hat
  have hsz := hgrow.size
  simp at hsz
  refine h g cap' w1 ⟨?_, hgrow.os, hgrow.tape, hgrow.output, by omega, fun k hk hne => ?_, ?_, hlt⟩
  · have : (List.range m).map (fun i => Value.int .i64 (f i)) ++ [.int .i64 x0] = (List.range (m + 1)).map (fun i => Value.int .i64 (Gr.upd f m x0 i)) := by
      rw [List.range_succ, List.map_append]
      congr 1
      · exact List.map_congr_left (fun i hi => by rw [Gr.upd_other _ _ (by have := List.mem_range.1 hi; omega)])
      · simp [Gr.upd_same]
    unfold Vec
    rw [← this]
    exact hown
  · rw [hgrow.block k (by simp; omega) (fun e => hne e.symm), Below.heap_alloc _ _ _ hk]
  · rcases hat with h1 | h1
    · exact Or.inl h1
    · right; omega
end Go.Proofs.Qxb6601852a

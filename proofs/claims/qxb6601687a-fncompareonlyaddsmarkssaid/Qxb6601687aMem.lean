/-
  The differ in memory: what the walks of middleSnake and compare know of a world.
-/
import Derived.Test.Qxb6601687aRows
import Derived.Test.Qxb6601687aMeet
import Derived.WalkKit
import Derived.ProofKit
import Derived.OpenShut
import Derived.ChangeOld
import Derived.Below
import Derived.Deep.OwnRows
import Derived.WalkSpells
import Derived.WalkLawsBesides
namespace Go.Proofs.Qxb6601687a
open Go.ChangeShapes Go.WideShapes Go.ChangeAt Go.RowKit

theorem hide {p : Prop} (h : p) : Hid p := h

/-- w' is w but for blocks of the list. -/
structure KeptBut (bs : List Nat) (w w' : World) : Prop where
  os : w'.os = w.os
  tape : w'.tape = w.tape
  output : w'.output = w.output
  size : w'.heap.size = w.heap.size
  block : ∀ b, b ∉ bs → w'.heap[b]? = w.heap[b]?
theorem KeptBut.refl (bs : List Nat) (w : World) : KeptBut bs w w := ⟨rfl, rfl, rfl, rfl, fun _ _ => rfl⟩
theorem KeptBut.trans {bs : List Nat} {a b c : World} (h : KeptBut bs a b) (k : KeptBut bs b c) : KeptBut bs a c :=
  ⟨k.os.trans h.os, k.tape.trans h.tape, k.output.trans h.output, k.size.trans h.size, fun i hi => (k.block i hi).trans (h.block i hi)⟩
theorem KeptBut.drewN (bs : List Nat) (w : World) (n : Nat) : KeptBut bs w (w.drewN n) := ⟨rfl, rfl, rfl, rfl, fun _ _ => rfl⟩
theorem KeptBut.setCell {bs : List Nat} {a w : World} (h : KeptBut bs a w) {p : Addr} (hp : p.block ∈ bs) (u : Value) : KeptBut bs a (w.setCell p u) :=
  h.trans ⟨rfl, rfl, rfl, by simp [World.setCell], fun k hk => Below.heap_setCell _ _ _ _ (fun e => hk (e ▸ hp))⟩
theorem KeptBut.mono {bs cs : List Nat} {a b : World} (h : KeptBut bs a b) (hc : ∀ x ∈ bs, x ∈ cs) : KeptBut cs a b :=
  ⟨h.os, h.tape, h.output, h.size, fun i hi => h.block i (fun e => hi (hc i e))⟩
theorem KeptBut.cell {bs : List Nat} {a b : World} (h : KeptBut bs a b) {p : Addr} (hp : p.block ∉ bs) : b.cell? p = a.cell? p := World.cell?_of_block (w := a) (h.block _ hp)

/-- The places of the differ: its own block, the two search rows (sz cells each), the two rows of lines. -/
structure Lay where
  L : Nat
  fb : Nat
  gb : Nat
  sz : Nat
  ab : Nat
  bb : Nat
  la : Nat
  lb : Nat
  za : Nat → Int
  zb : Nat → Int

/-- What stands in memory while middleSnake searches: the differ with its steps st; the search rows hold F, B by diagonals (diagonal k at k + m + 1); the lines. -/
structure MS (P : Lay) (vd vi : Value) (n m : Int) (F B : Int → Int) (st : Int) (w : World) : Prop where
  obj : w.heap[P.L]? = some (.cells #[.slice (some ⟨P.ab, 0, none⟩) P.la P.la, .slice (some ⟨P.bb, 0, none⟩) P.lb P.lb, vd, vi, .slice (some ⟨P.fb, 0, none⟩) P.sz P.sz, .slice (some ⟨P.gb, 0, none⟩) P.sz P.sz, .int .i64 st] 42 (0, 0))
  frow : ∃ f : Nat → Int, w.rowIs P.fb 3 P.sz (fun i => .int .i64 (f i)) ∧ ∀ k : Int, -(m + 1) ≤ k → k ≤ n + 1 → f (k + (m + 1)).toNat = F k
  grow : ∃ f : Nat → Int, w.rowIs P.gb 3 P.sz (fun i => .int .i64 (f i)) ∧ ∀ k : Int, -(m + 1) ≤ k → k ≤ n + 1 → f (k + (m + 1)).toNat = B k
  arow : w.rowIs P.ab 21 P.la (fun i => .int .i32 (P.za i))
  brow : w.rowIs P.bb 21 P.lb (fun i => .int .i32 (P.zb i))
  apart : P.L ≠ P.fb ∧ P.L ≠ P.gb ∧ P.fb ≠ P.gb ∧ P.ab ≠ P.L ∧ P.ab ≠ P.fb ∧ P.ab ≠ P.gb ∧ P.bb ≠ P.L ∧ P.bb ≠ P.fb ∧ P.bb ≠ P.gb
  room : n + m + 3 ≤ P.sz

section
variable {P : Lay} {vd vi : Value} {n m : Int} {F B : Int → Int} {st : Int} {w : World}

theorem MS.drewN (h : MS P vd vi n m F B st w) (q : Nat) : MS P vd vi n m F B st (w.drewN q) := ⟨h.obj, h.frow, h.grow, h.arow, h.brow, h.apart, h.room⟩
theorem MS.steps (h : MS P vd vi n m F B st w) : w.cell? ⟨P.L, 6, none⟩ = some (.int .i64 st) ∧ w.frozen? ⟨P.L, 6, none⟩ = false := by simp [World.cell?, World.frozen?, h.obj]
theorem MS.ab0 (h : MS P vd vi n m F B st w) : w.cell? ⟨P.L, 0, none⟩ = some (.slice (some ⟨P.ab, 0, none⟩) P.la P.la) := by simp [World.cell?, h.obj]
theorem MS.bb0 (h : MS P vd vi n m F B st w) : w.cell? ⟨P.L, 1, none⟩ = some (.slice (some ⟨P.bb, 0, none⟩) P.lb P.lb) := by simp [World.cell?, h.obj]
theorem MS.fb0 (h : MS P vd vi n m F B st w) : w.cell? ⟨P.L, 4, none⟩ = some (.slice (some ⟨P.fb, 0, none⟩) P.sz P.sz) := by simp [World.cell?, h.obj]
theorem MS.gb0 (h : MS P vd vi n m F B st w) : w.cell? ⟨P.L, 5, none⟩ = some (.slice (some ⟨P.gb, 0, none⟩) P.sz P.sz) := by simp [World.cell?, h.obj]
theorem MS.fcell (h : MS P vd vi n m F B st w) {k : Int} (h1 : -(m + 1) ≤ k) (h2 : k ≤ n + 1) : w.cell? ⟨P.fb, (k + (m + 1)).toNat, none⟩ = some (.int .i64 (F k)) ∧ w.frozen? ⟨P.fb, (k + (m + 1)).toNat, none⟩ = false := by
  obtain ⟨f, hr, hf⟩ := h.frow
  have := h.room
  exact ⟨by rw [hr.cell (by omega), hf k h1 h2], hr.frozen _⟩
theorem MS.gcell (h : MS P vd vi n m F B st w) {k : Int} (h1 : -(m + 1) ≤ k) (h2 : k ≤ n + 1) : w.cell? ⟨P.gb, (k + (m + 1)).toNat, none⟩ = some (.int .i64 (B k)) ∧ w.frozen? ⟨P.gb, (k + (m + 1)).toNat, none⟩ = false := by
  obtain ⟨f, hr, hf⟩ := h.grow
  have := h.room
  exact ⟨by rw [hr.cell (by omega), hf k h1 h2], hr.frozen _⟩
theorem MS.acell (h : MS P vd vi n m F B st w) {i : Nat} (hi : i < P.la) : w.cell? ⟨P.ab, i, none⟩ = some (.int .i32 (P.za i)) := h.arow.cell hi
theorem MS.bcell (h : MS P vd vi n m F B st w) {i : Nat} (hi : i < P.lb) : w.cell? ⟨P.bb, i, none⟩ = some (.int .i32 (P.zb i)) := h.brow.cell hi

theorem heap_set {w : World} {b : Nat} {cs : Array Value} {t : TypeId} (h : w.heap[b]? = some (.cells cs t (0, 0))) (o : Nat) (u : Value) : (w.setCell ⟨b, o, none⟩ u).heap[b]? = some (.cells (cs.setIfInBounds o u) t (0, 0)) := heap_setCell_same w b o cs t u h

/-- A step is taken. -/
theorem MS.setSteps (h : MS P vd vi n m F B st w) (s : Int) : MS P vd vi n m F B s (w.setCell ⟨P.L, 6, none⟩ (.int .i64 s)) := by
  obtain ⟨p1, p2, p3, p4, p5, p6, p7, p8, p9⟩ := h.apart
  refine ⟨?_, ?_, ?_, h.arow.setOther (fun e => p4 e) _, h.brow.setOther (fun e => p7 e) _, h.apart, h.room⟩
  · rw [heap_set h.obj]; rfl
  · obtain ⟨f, hr, hf⟩ := h.frow
    exact ⟨f, hr.setOther (fun e => p1 e.symm) _, hf⟩
  · obtain ⟨f, hr, hf⟩ := h.grow
    exact ⟨f, hr.setOther (fun e => p2 e.symm) _, hf⟩
theorem MS.setF (h : MS P vd vi n m F B st w) {k : Int} (h1 : -(m + 1) ≤ k) (h2 : k ≤ n + 1) (v : Int) : MS P vd vi n m (My.upd F k v) B st (w.setCell ⟨P.fb, (k + (m + 1)).toNat, none⟩ (.int .i64 v)) := by
  obtain ⟨p1, p2, p3, p4, p5, p6, p7, p8, p9⟩ := h.apart
  refine ⟨?_, ?_, ?_, h.arow.setOther (fun e => p5 e) _, h.brow.setOther (fun e => p8 e) _, h.apart, h.room⟩
  · rw [Below.heap_setCell _ _ _ _ (fun e => p1 e)]; exact h.obj
  · obtain ⟨f, hr, hf⟩ := h.frow
    refine ⟨fun i => if i = (k + (m + 1)).toNat then v else f i, (hr.set (k + (m + 1)).toNat (.int .i64 v)).congr (fun i _ => ?_), fun j q1 q2 => ?_⟩
    · by_cases e : i = (k + (m + 1)).toNat
      · simp [e]
      · simp [e]
    · by_cases e : j = k
      · subst e; simp [My.upd]
      · rw [My.upd_other _ _ e]
        simp only
        rw [if_neg (by omega)]
        exact hf j q1 q2
  · obtain ⟨f, hr, hf⟩ := h.grow
    exact ⟨f, hr.setOther (fun e => p3 e.symm) _, hf⟩
theorem MS.setB (h : MS P vd vi n m F B st w) {k : Int} (h1 : -(m + 1) ≤ k) (h2 : k ≤ n + 1) (v : Int) : MS P vd vi n m F (My.upd B k v) st (w.setCell ⟨P.gb, (k + (m + 1)).toNat, none⟩ (.int .i64 v)) := by
  obtain ⟨p1, p2, p3, p4, p5, p6, p7, p8, p9⟩ := h.apart
  refine ⟨?_, ?_, ?_, h.arow.setOther (fun e => p6 e) _, h.brow.setOther (fun e => p9 e) _, h.apart, h.room⟩
  · rw [Below.heap_setCell _ _ _ _ (fun e => p2 e)]; exact h.obj
  · obtain ⟨f, hr, hf⟩ := h.frow
    exact ⟨f, hr.setOther (fun e => p3 e) _, hf⟩
  · obtain ⟨f, hr, hf⟩ := h.grow
    refine ⟨fun i => if i = (k + (m + 1)).toNat then v else f i, (hr.set (k + (m + 1)).toNat (.int .i64 v)).congr (fun i _ => ?_), fun j q1 q2 => ?_⟩
    · by_cases e : i = (k + (m + 1)).toNat
      · simp [e]
      · simp [e]
    · by_cases e : j = k
      · subst e; simp [My.upd]
      · rw [My.upd_other _ _ e]
        simp only
        rw [if_neg (by omega)]
        exact hf j q1 q2
theorem MS.congr {F' B' : Int → Int} (h : MS P vd vi n m F B st w) (hF : ∀ k, -(m + 1) ≤ k → k ≤ n + 1 → F k = F' k) (hB : ∀ k, -(m + 1) ≤ k → k ≤ n + 1 → B k = B' k) : MS P vd vi n m F' B' st w := by
  refine ⟨h.obj, ?_, ?_, h.arow, h.brow, h.apart, h.room⟩
  · obtain ⟨f, hr, hf⟩ := h.frow
    exact ⟨f, hr, fun k q1 q2 => (hf k q1 q2).trans (hF k q1 q2)⟩
  · obtain ⟨f, hr, hf⟩ := h.grow
    exact ⟨f, hr, fun k q1 q2 => (hf k q1 q2).trans (hB k q1 q2)⟩
/-- The first round: both rows are cleared, cell by cell. -/
theorem MS.clear (h : MS P vd vi n m F B st w) {j : Nat} (hj : (j : Int) < n + m + 3) :
    MS P vd vi n m (My.upd F (j - (m + 1)) (-1)) (My.upd B (j - (m + 1)) (-1)) st ((w.setCell ⟨P.fb, j, none⟩ (.int .i64 (-1))).setCell ⟨P.gb, j, none⟩ (.int .i64 (-1))) := by
  have h1 := h.setF (k := j - (m + 1)) (by omega) (by omega) (-1)
  have h2 := h1.setB (k := j - (m + 1)) (by omega) (by omega) (-1)
  rw [show ((j : Int) - (m + 1) + (m + 1)).toNat = j by omega] at h2
  exact h2
/-- Every value of a row is -1, or a point in the graph on its diagonal. -/
def FB (n m : Int) (F : Int → Int) : Prop := ∀ k, F k = -1 ∨ (0 ≤ F k ∧ F k ≤ n ∧ 0 ≤ F k - k ∧ F k - k ≤ m)
theorem FB.lo (h : FB n m F) (k : Int) : -1 ≤ F k := by rcases h k with e | e <;> omega
theorem FB.hi (h : FB n m F) (hn : 0 ≤ n) (k : Int) : F k ≤ n := by rcases h k with e | e <;> omega
theorem FB.upd (h : FB n m F) {k v : Int} (h1 : 0 ≤ v) (h2 : v ≤ n) (h3 : 0 ≤ v - k) (h4 : v - k ≤ m) : FB n m (My.upd F k v) := fun j => by
  by_cases e : j = k
  · subst e; rw [My.upd_same]; exact .inr ⟨h1, h2, h3, h4⟩
  · rw [My.upd_other _ _ e]; exact h j
theorem FB.updMax (h : FB n m F) {k v : Int} (h1 : 0 ≤ v) (h2 : v ≤ n) (h3 : 0 ≤ v - k) (h4 : v - k ≤ m) : FB n m (My.upd F k (max (F k) v)) := by
  have := h k
  by_cases hle : F k ≤ v
  · rw [Int.max_eq_right hle]; exact h.upd h1 h2 h3 h4
  · rw [Int.max_eq_left (by omega)]; exact h.upd (by omega) (by omega) (by omega) (by omega)
theorem FB.cand (h : FB n m F) {c k : Int} (hn : 0 ≤ n) (hm : 0 ≤ m) (h1 : -c ≤ k) (h2 : k ≤ c) (hx : ¬ My.cand n m c F k < 0) : My.cand n m c F k ≤ n ∧ 0 ≤ My.cand n m c F k - k ∧ My.cand n m c F k - k ≤ m := by
  rcases My.cand_cases (n := n) (m := m) c F k with e | ⟨q1, q2, q3, e⟩ | ⟨q1, q2, q3, e⟩
  · rw [e] at hx ⊢
    by_cases hc0 : c = 0
    · rw [if_pos hc0] at hx ⊢; omega
    · rw [if_neg hc0] at hx; omega
  · rw [e]; rcases h (k + 1) with q | q <;> omega
  · rw [e]; rcases h (k - 1) with q | q <;> omega
theorem FB.candB (h : FB n m B) {c k : Int} (hn : 0 ≤ n) (hm : 0 ≤ m) (h1 : (n - m) - c ≤ k) (h2 : k ≤ (n - m) + c) (hx : ¬ n < My.candB n c (n - m) B k) : 0 ≤ My.candB n c (n - m) B k ∧ 0 ≤ My.candB n c (n - m) B k - k ∧ My.candB n c (n - m) B k - k ≤ m := by
  rcases My.candB_cases (n := n) c (n - m) B k with e | ⟨q1, q2, e⟩ | ⟨q1, q2, q3, e⟩
  · rw [e] at hx ⊢
    by_cases hc0 : c = 0
    · rw [if_pos hc0] at hx ⊢; omega
    · rw [if_neg hc0] at hx; omega
  · rw [e]; rcases h (k + 1) with q | q <;> omega
  · rw [e]; rcases h (k - 1) with q | q <;> omega
theorem advTo_bounds (eq : Int → Int → Bool) {n m k x : Int} (h1 : x ≤ n) (h2 : x - k ≤ m) : x ≤ My.advTo eq n m k x ∧ My.advTo eq n m k x ≤ n ∧ My.advTo eq n m k x - k ≤ m := by
  have hs : My.Sn eq n m x (x - k) (My.advTo eq n m k x) (My.advTo eq n m k x - k) := My.adv_sn k _ _
  have a := My.Sn.le hs
  have b := My.Sn.inside hs h1 h2
  exact ⟨a.1, b.1, b.2⟩
theorem retTo_bounds (eq : Int → Int → Bool) {n m k x : Int} (h0 : 0 ≤ x) (h1 : 0 ≤ x - k) (h2 : x ≤ n) (h3 : x - k ≤ m) : My.retTo eq k x ≤ x ∧ 0 ≤ My.retTo eq k x ∧ 0 ≤ My.retTo eq k x - k := by
  have hs : My.Sn eq n m (My.retTo eq k x) (My.retTo eq k x - k) x (x - k) := My.ret_sn k _ _ h2 h3
  have a := My.Sn.le hs
  have b : 0 ≤ My.retTo eq k x ∧ 0 ≤ My.retTo eq k x - k := My.ret_pos k _ _ h0 h1
  exact ⟨a.1, b.1, b.2⟩
end
end Go.Proofs.Qxb6601687a

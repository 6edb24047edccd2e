/-
  The differ in memory as compare sees it.
-/
import Derived.Test.Qxb6601687aCmp
namespace Go.Proofs.Qxb6601687a
open Go.ChangeShapes Go.WideShapes Go.ChangeAt Go.RowKit

/-- w' is w, grown, but for blocks of the list. -/
structure Kept (bs : List Nat) (w w' : World) : Prop where
  os : w'.os = w.os
  tape : w'.tape = w.tape
  output : w'.output = w.output
  size : w.heap.size ≤ w'.heap.size
  block : ∀ b, b < w.heap.size → b ∉ bs → w'.heap[b]? = w.heap[b]?
theorem Kept.refl (bs : List Nat) (w : World) : Kept bs w w := ⟨rfl, rfl, rfl, Nat.le_refl _, fun _ _ _ => rfl⟩
theorem Kept.trans {bs : List Nat} {a b c : World} (h : Kept bs a b) (k : Kept bs b c) : Kept bs a c :=
  ⟨k.os.trans h.os, k.tape.trans h.tape, k.output.trans h.output, Nat.le_trans h.size k.size, fun i hi hn => (k.block i (Nat.lt_of_lt_of_le hi h.size) hn).trans (h.block i hi hn)⟩
theorem Kept.drewN (bs : List Nat) (w : World) (n : Nat) : Kept bs w (w.drewN n) := ⟨rfl, rfl, rfl, Nat.le_refl _, fun _ _ _ => rfl⟩
theorem Kept.setCell {bs : List Nat} {a w : World} (h : Kept bs a w) {p : Addr} (hp : p.block ∈ bs) (u : Value) : Kept bs a (w.setCell p u) :=
  h.trans ⟨rfl, rfl, rfl, by simp [World.setCell], fun k _ hk => Below.heap_setCell _ _ _ _ (fun e => hk (e ▸ hp))⟩
theorem Kept.alloc {bs : List Nat} {a w : World} (h : Kept bs a w) (o : Obj) : Kept bs a (w.alloc o) :=
  h.trans ⟨rfl, rfl, rfl, by simp, fun k hk _ => Below.heap_alloc _ _ _ hk⟩
theorem KeptBut.kept {bs : List Nat} {a b : World} (h : KeptBut bs a b) : Kept bs a b := ⟨h.os, h.tape, h.output, Nat.le_of_eq h.size.symm, fun i _ hn => h.block i hn⟩
/-- Writes to blocks that were not there yet, or that are on the longer list. -/
theorem Kept.weaken {bs cs : List Nat} {a b : World} (h : Kept bs a b) (hc : ∀ x ∈ bs, x ∈ cs ∨ a.heap.size ≤ x) : Kept cs a b :=
  ⟨h.os, h.tape, h.output, h.size, fun i hi hn => h.block i hi (fun e => by rcases hc i e with q | q; exact hn q; omega)⟩
theorem Kept.below {bs : List Nat} {a b : World} (h : Kept bs a b) {N : Nat} (hN : N ≤ a.heap.size) (hb : ∀ x ∈ bs, N ≤ x) : Below N a b :=
  ⟨h.os, h.tape, h.output, h.size, fun k hk => h.block k (by omega) (fun e => by have := hb k e; omega)⟩

/-- w' is w, grown, but for blocks of the list, and for blocks from N on. -/
structure Keep (N : Nat) (bs : List Nat) (w w' : World) : Prop where
  os : w'.os = w.os
  tape : w'.tape = w.tape
  output : w'.output = w.output
  size : w.heap.size ≤ w'.heap.size
  block : ∀ b, b < N → b ∉ bs → w'.heap[b]? = w.heap[b]?
theorem Keep.refl (N : Nat) (bs : List Nat) (w : World) : Keep N bs w w := ⟨rfl, rfl, rfl, Nat.le_refl _, fun _ _ _ => rfl⟩
theorem Keep.trans {N : Nat} {bs : List Nat} {a b c : World} (h : Keep N bs a b) (k : Keep N bs b c) : Keep N bs a c :=
  ⟨k.os.trans h.os, k.tape.trans h.tape, k.output.trans h.output, Nat.le_trans h.size k.size, fun i hi hn => (k.block i hi hn).trans (h.block i hi hn)⟩
theorem Keep.drewN (N : Nat) (bs : List Nat) (w : World) (n : Nat) : Keep N bs w (w.drewN n) := ⟨rfl, rfl, rfl, Nat.le_refl _, fun _ _ _ => rfl⟩
theorem Keep.setCell {N : Nat} {bs : List Nat} {a w : World} (h : Keep N bs a w) {p : Addr} (hp : p.block ∈ bs) (u : Value) : Keep N bs a (w.setCell p u) :=
  h.trans ⟨rfl, rfl, rfl, by simp [World.setCell], fun k _ hk => Below.heap_setCell _ _ _ _ (fun e => hk (e ▸ hp))⟩
theorem Keep.alloc {N : Nat} {bs : List Nat} {a w : World} (h : Keep N bs a w) (hN : N ≤ w.heap.size) (o : Obj) : Keep N bs a (w.alloc o) :=
  h.trans ⟨rfl, rfl, rfl, by simp, fun k hk _ => Below.heap_alloc _ _ _ (by omega)⟩
theorem KeptBut.keep {N : Nat} {bs cs : List Nat} {a b : World} (h : KeptBut bs a b) (hc : ∀ x ∈ bs, x ∈ cs ∨ N ≤ x) : Keep N cs a b :=
  ⟨h.os, h.tape, h.output, Nat.le_of_eq h.size.symm, fun i hi hn => h.block i (fun e => by rcases hc i e with q | q; exact hn q; omega)⟩

/-- The slices of the two search rows: none made yet, or both. -/
def fwOf : Option (Nat × Nat × Nat) → Value
  | none => .slice none 0 0
  | some t => .slice (some ⟨t.1, 0, none⟩) t.2.2 t.2.2
def bwOf : Option (Nat × Nat × Nat) → Value
  | none => .slice none 0 0
  | some t => .slice (some ⟨t.2.1, 0, none⟩) t.2.2 t.2.2

/-- The differ's four slices. -/
structure Four where
  va : Value
  vb : Value
  vd : Value
  vi : Value

/-- The differ in memory as compare sees it: blocks below N are the caller's (the differ's own among them); the search rows, where made, lie from N on. -/
structure CS (P : Lay) (V : Four) (db ib N : Nat) (D I : Nat → Bool) (S : Option (Nat × Nat × Nat)) (st : Int) (w : World) : Prop where
  obj : w.heap[P.L]? = some (.cells #[V.va, V.vb, V.vd, V.vi, fwOf S, bwOf S, .int .i64 st] 42 (0, 0))
  ha : 1 ≤ P.la → V.va = .slice (some ⟨P.ab, 0, none⟩) P.la P.la ∧ V.vd = .slice (some ⟨db, 0, none⟩) P.la P.la ∧ w.rowIs P.ab 21 P.la (fun i => .int .i32 (P.za i)) ∧ w.rowIs db 4 P.la (fun i => .bool (D i)) ∧ P.ab ≠ P.L ∧ db ≠ P.L ∧ db ≠ P.ab
  hb : 1 ≤ P.lb → V.vb = .slice (some ⟨P.bb, 0, none⟩) P.lb P.lb ∧ V.vi = .slice (some ⟨ib, 0, none⟩) P.lb P.lb ∧ w.rowIs P.bb 21 P.lb (fun i => .int .i32 (P.zb i)) ∧ w.rowIs ib 4 P.lb (fun i => .bool (I i)) ∧ P.bb ≠ P.L ∧ ib ≠ P.L ∧ ib ≠ P.bb
  hab : 1 ≤ P.la → 1 ≤ P.lb → db ≠ ib ∧ db ≠ P.bb ∧ ib ≠ P.ab
  rows : ∀ t, S = some t → (∃ f : Nat → Int, w.rowIs t.1 3 t.2.2 (fun i => .int .i64 (f i))) ∧ (∃ g : Nat → Int, w.rowIs t.2.1 3 t.2.2 (fun i => .int .i64 (g i))) ∧ t.1 ≠ t.2.1 ∧ N ≤ t.1 ∧ N ≤ t.2.1
  low : P.L < N ∧ P.ab < N ∧ P.bb < N ∧ db < N ∧ ib < N ∧ N ≤ w.heap.size
  la : P.la ≤ 1024
  lb : P.lb ≤ 1024

section
variable {P : Lay} {V : Four} {db ib N : Nat} {D I : Nat → Bool} {S : Option (Nat × Nat × Nat)} {st : Int} {w : World}

theorem CS.drewN (h : CS P V db ib N D I S st w) (q : Nat) : CS P V db ib N D I S st (w.drewN q) := ⟨h.obj, h.ha, h.hb, h.hab, h.rows, h.low, h.la, h.lb⟩
theorem CS.a0 (h : CS P V db ib N D I S st w) (hl : 1 ≤ P.la) : w.cell? ⟨P.L, 0, none⟩ = some (.slice (some ⟨P.ab, 0, none⟩) P.la P.la) := by simp [World.cell?, h.obj, (h.ha hl).1]
theorem CS.b0 (h : CS P V db ib N D I S st w) (hl : 1 ≤ P.lb) : w.cell? ⟨P.L, 1, none⟩ = some (.slice (some ⟨P.bb, 0, none⟩) P.lb P.lb) := by simp [World.cell?, h.obj, (h.hb hl).1]
theorem CS.d0 (h : CS P V db ib N D I S st w) (hl : 1 ≤ P.la) : w.cell? ⟨P.L, 2, none⟩ = some (.slice (some ⟨db, 0, none⟩) P.la P.la) := by simp [World.cell?, h.obj, (h.ha hl).2.1]
theorem CS.i0 (h : CS P V db ib N D I S st w) (hl : 1 ≤ P.lb) : w.cell? ⟨P.L, 3, none⟩ = some (.slice (some ⟨ib, 0, none⟩) P.lb P.lb) := by simp [World.cell?, h.obj, (h.hb hl).2.1]
theorem CS.f0 (h : CS P V db ib N D I S st w) : w.cell? ⟨P.L, 4, none⟩ = some (fwOf S) := by simp [World.cell?, h.obj]
theorem CS.frz (h : CS P V db ib N D I S st w) (o : Nat) : w.frozen? ⟨P.L, o, none⟩ = false := by simp [World.frozen?, h.obj]
theorem CS.acell (h : CS P V db ib N D I S st w) {i : Nat} (hi : i < P.la) : w.cell? ⟨P.ab, i, none⟩ = some (.int .i32 (P.za i)) := (h.ha (by omega)).2.2.1.cell hi
theorem CS.bcell (h : CS P V db ib N D I S st w) {i : Nat} (hi : i < P.lb) : w.cell? ⟨P.bb, i, none⟩ = some (.int .i32 (P.zb i)) := (h.hb (by omega)).2.2.1.cell hi
theorem CS.dcell (h : CS P V db ib N D I S st w) {i : Nat} (hi : i < P.la) : w.cell? ⟨db, i, none⟩ = some (.bool (D i)) ∧ w.frozen? ⟨db, i, none⟩ = false := ⟨(h.ha (by omega)).2.2.2.1.cell hi, (h.ha (by omega)).2.2.2.1.frozen _⟩
theorem CS.icell (h : CS P V db ib N D I S st w) {i : Nat} (hi : i < P.lb) : w.cell? ⟨ib, i, none⟩ = some (.bool (I i)) ∧ w.frozen? ⟨ib, i, none⟩ = false := ⟨(h.hb (by omega)).2.2.2.1.cell hi, (h.hb (by omega)).2.2.2.1.frozen _⟩

theorem CS.congr {D' I' : Nat → Bool} (h : CS P V db ib N D I S st w) (hD : ∀ i, i < P.la → D i = D' i) (hI : ∀ j, j < P.lb → I j = I' j) : CS P V db ib N D' I' S st w := by
  refine ⟨h.obj, fun hl => ?_, fun hl => ?_, h.hab, h.rows, h.low, h.la, h.lb⟩
  · obtain ⟨p1, p2, p3, p4, p5⟩ := h.ha hl
    exact ⟨p1, p2, p3, p4.congr (fun i hi => by rw [hD i hi]), p5⟩
  · obtain ⟨p1, p2, p3, p4, p5⟩ := h.hb hl
    exact ⟨p1, p2, p3, p4.congr (fun i hi => by rw [hI i hi]), p5⟩
/-- A mark is set. -/
theorem CS.setD (h : CS P V db ib N D I S st w) {i : Nat} (hi : i < P.la) : CS P V db ib N (fun j => D j || decide (j = i)) I S st (w.setCell ⟨db, i, none⟩ (.bool true)) := by
  obtain ⟨p1, p2, p3, p4, p5, p6, p7⟩ := h.ha (by omega)
  obtain ⟨l1, l2, l3, l4, l5, l6⟩ := h.low
  refine ⟨?_, fun hl => ⟨p1, p2, ?_, ?_, p5, p6, p7⟩, fun hl => ?_, h.hab, fun t ht => ?_, ⟨l1, l2, l3, l4, l5, by simpa [World.setCell] using l6⟩, h.la, h.lb⟩
  · rw [Below.heap_setCell _ _ _ _ (fun e => p6 e.symm)]; exact h.obj
  · exact p3.setOther (fun e => p7 e.symm) _
  · refine (p4.set i (.bool true)).congr (fun j _ => ?_)
    by_cases e : j = i
    · simp [e]
    · simp [e]
  · obtain ⟨q1, q2, q3, q4, q5, q6, q7⟩ := h.hb hl
    obtain ⟨r1, r2, r3⟩ := h.hab (by omega) hl
    exact ⟨q1, q2, q3.setOther (fun e => r2 e.symm) _, q4.setOther (fun e => r1 e.symm) _, q5, q6, q7⟩
  · obtain ⟨⟨f, hf⟩, ⟨g, hg⟩, q1, q2, q3⟩ := h.rows t ht
    exact ⟨⟨f, hf.setOther (fun e => by simp only at e; omega) _⟩, ⟨g, hg.setOther (fun e => by simp only at e; omega) _⟩, q1, q2, q3⟩
theorem CS.setI (h : CS P V db ib N D I S st w) {i : Nat} (hi : i < P.lb) : CS P V db ib N D (fun j => I j || decide (j = i)) S st (w.setCell ⟨ib, i, none⟩ (.bool true)) := by
  obtain ⟨p1, p2, p3, p4, p5, p6, p7⟩ := h.hb (by omega)
  obtain ⟨l1, l2, l3, l4, l5, l6⟩ := h.low
  refine ⟨?_, fun hl => ?_, fun hl => ⟨p1, p2, ?_, ?_, p5, p6, p7⟩, h.hab, fun t ht => ?_, ⟨l1, l2, l3, l4, l5, by simpa [World.setCell] using l6⟩, h.la, h.lb⟩
  · rw [Below.heap_setCell _ _ _ _ (fun e => p6 e.symm)]; exact h.obj
  · obtain ⟨q1, q2, q3, q4, q5, q6, q7⟩ := h.ha hl
    obtain ⟨r1, r2, r3⟩ := h.hab hl (by omega)
    exact ⟨q1, q2, q3.setOther (fun e => r3 e.symm) _, q4.setOther (fun e => r1 e) _, q5, q6, q7⟩
  · exact p3.setOther (fun e => p7 e.symm) _
  · refine (p4.set i (.bool true)).congr (fun j _ => ?_)
    by_cases e : j = i
    · simp [e]
    · simp [e]
  · obtain ⟨⟨f, hf⟩, ⟨g, hg⟩, q1, q2, q3⟩ := h.rows t ht
    exact ⟨⟨f, hf.setOther (fun e => by simp only at e; omega) _⟩, ⟨g, hg.setOther (fun e => by simp only at e; omega) _⟩, q1, q2, q3⟩

/-- The places with the search rows filled in. -/
def Lay.at (P : Lay) (t : Nat × Nat × Nat) : Lay := { P with fb := t.1, gb := t.2.1, sz := t.2.2 }

theorem CS.toMS {t : Nat × Nat × Nat} (h : CS P V db ib N D I (some t) st w) (hla : 1 ≤ P.la) (hlb : 1 ≤ P.lb) {n m : Int} (hsz : n + m + 3 ≤ t.2.2) :
    ∃ F B, MS (P.at t) V.vd V.vi n m F B st w := by
  obtain ⟨p1, p2, p3, p4, p5, p6, p7⟩ := h.ha hla
  obtain ⟨q1, q2, q3, q4, q5, q6, q7⟩ := h.hb hlb
  obtain ⟨l1, l2, l3, l4, l5, l6⟩ := h.low
  obtain ⟨⟨f, hf⟩, ⟨g, hg⟩, r1, r2, r3⟩ := h.rows t rfl
  refine ⟨fun k => f (k + (m + 1)).toNat, fun k => g (k + (m + 1)).toNat, ?_, ⟨f, hf, fun _ _ _ => rfl⟩, ⟨g, hg, fun _ _ _ => rfl⟩, p3, q3, ?_, hsz⟩
  · have := h.obj
    rw [p1, q1] at this
    exact this
  · simp only [Lay.at]
    exact ⟨by omega, by omega, r1, p5, by omega, by omega, q5, by omega, by omega⟩

theorem CS.fromMS {t : Nat × Nat × Nat} {w' : World} {st' : Int} (h : CS P V db ib N D I (some t) st w) (hla : 1 ≤ P.la) (hlb : 1 ≤ P.lb) {n m : Int} {F B : Int → Int}
    (hM : MS (P.at t) V.vd V.vi n m F B st' w') (hK : KeptBut [P.L, t.1, t.2.1] w w') : CS P V db ib N D I (some t) st' w' := by
  obtain ⟨p1, p2, p3, p4, p5, p6, p7⟩ := h.ha hla
  obtain ⟨q1, q2, q3, q4, q5, q6, q7⟩ := h.hb hlb
  obtain ⟨l1, l2, l3, l4, l5, l6⟩ := h.low
  obtain ⟨⟨f, hf⟩, ⟨g, hg⟩, r1, r2, r3⟩ := h.rows t rfl
  obtain ⟨f', hf', _⟩ := hM.frow
  obtain ⟨g', hg', _⟩ := hM.grow
  refine ⟨?_, fun _ => ⟨p1, p2, hM.arow, ?_, p5, p6, p7⟩, fun _ => ⟨q1, q2, hM.brow, ?_, q5, q6, q7⟩, h.hab, fun u hu => ?_, ⟨l1, l2, l3, l4, l5, by rw [hK.size]; exact l6⟩, h.la, h.lb⟩
  · have := hM.obj
    rw [p1, q1]
    exact this
  · have := hK.block db (by simp; omega)
    unfold World.rowIs at p4 ⊢
    rw [this]; exact p4
  · have := hK.block ib (by simp; omega)
    unfold World.rowIs at q4 ⊢
    rw [this]; exact q4
  · cases hu
    exact ⟨⟨f', hf'⟩, ⟨g', hg'⟩, r1, r2, r3⟩
end
end Go.Proofs.Qxb6601687a

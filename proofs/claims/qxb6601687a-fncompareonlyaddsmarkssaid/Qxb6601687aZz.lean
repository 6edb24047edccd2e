import Derived.Test.Qxb6601687aTrim
import Derived.Test.Qxb6601687aClone
namespace Go.Proofs.Qxb6601687a
open Go.ChangeShapes Go.WideShapes Go.ChangeAt Go.RowKit

/-- What ZZCompare finds: the lines and the marks, each a whole row of its own block. -/
structure Pre (w : World) (la lb ab bb db ib : Nat) (aa aB ad ai : Option Addr) (za zb : Nat → Int) (D I : Nat → Bool) : Prop where
  a : RowA w 21 ab aa la (fun i => .int .i32 (za i))
  b : RowA w 21 bb aB lb (fun i => .int .i32 (zb i))
  d : RowA w 4 db ad la (fun i => .bool (D i))
  i : RowA w 4 ib ai lb (fun i => .bool (I i))
  apart : (1 ≤ la → db ≠ ab) ∧ (1 ≤ lb → ib ≠ bb) ∧ (1 ≤ la → 1 ≤ lb → db ≠ ib ∧ db ≠ bb ∧ ib ≠ ab)
  low : ab ≤ w.heap.size ∧ bb ≤ w.heap.size ∧ db ≤ w.heap.size ∧ ib ≤ w.heap.size
  la : la ≤ 1024
  lb : lb ≤ 1024

theorem Pre.cs {w : World} {la lb ab bb db ib : Nat} {aa aB ad ai : Option Addr} {za zb : Nat → Int} {D I : Nat → Bool} (h : Pre w la lb ab bb db ib aa aB ad ai za zb D I) (st : Int) :
    CS ⟨w.heap.size, 0, 0, 0, ab, bb, la, lb, za, zb⟩ ⟨.slice aa la la, .slice aB lb lb, .slice ad la la, .slice ai lb lb⟩ db ib (w.heap.size + 1) D I none st
      (w.alloc (.cells #[.slice aa la la, .slice aB lb lb, .slice ad la la, .slice ai lb lb, .slice none 0 0, .slice none 0 0, .int .i64 st] 42)) := by
  obtain ⟨p1, p2, p3⟩ := h.apart
  obtain ⟨l1, l2, l3, l4⟩ := h.low
  refine ⟨?_, fun hl => ?_, fun hl => ?_, p3, fun t ht => (by cases ht), ⟨by simp, by simp only; omega, by simp only; omega, by omega, by omega, by simp⟩, h.la, h.lb⟩
  · show (w.heap.push _)[w.heap.size]? = _
    rw [Array.getElem?_push, if_pos rfl]
    rfl
  · obtain ⟨e1, r1⟩ := h.a hl
    obtain ⟨e2, r2⟩ := h.d hl
    have := r1.lt
    have := r2.lt
    exact ⟨by rw [e1], by rw [e2], r1.alloc _, r2.alloc _, by simp only; omega, by simp only; omega, p1 hl⟩
  · obtain ⟨e1, r1⟩ := h.b hl
    obtain ⟨e2, r2⟩ := h.i hl
    have := r1.lt
    have := r2.lt
    exact ⟨by rw [e1], by rw [e2], r1.alloc _, r2.alloc _, by simp only; omega, by simp only; omega, p2 hl⟩

/-- Blocks below B other than two keep; memory grows. -/
structure But (B x y : Nat) (w w' : World) : Prop where
  os : w'.os = w.os
  tape : w'.tape = w.tape
  output : w'.output = w.output
  size : w.heap.size ≤ w'.heap.size
  block : ∀ k, k < B → k ≠ x → k ≠ y → w'.heap[k]? = w.heap[k]?

set_option maxHeartbeats 1000000 in
theorem zz_any (w : World) (la lb ab bb db ib : Nat) (aa aB ad ai : Option Addr) (za zb : Nat → Int) (D I : Nat → Bool) (a0 a1 b0 b1 : Nat) (M : My.Marks)
    (h : Pre w la lb ab bb db ib aa aB ad ai za zb D I) (h1 : a0 ≤ a1) (h2 : a1 ≤ la) (h3 : b0 ≤ b1) (h4 : b1 ≤ lb)
    (hM : Hid (My.cmp ⟨w.heap.size, 0, 0, 0, ab, bb, la, lb, za, zb⟩ 4096 a0 a1 b0 b1 = some M)) :
    Calls Try.prog 14 #[.slice aa la la, .slice aB lb lb, .slice ad la la, .slice ai lb lb, .int .i64 9223372036854775807, .int .i64 a0, .int .i64 a1, .int .i64 b0, .int .i64 b1] w
      fun e w' => (∃ st, e = .returned (.tuple #[.bool true, .int .i64 st])) ∧ RowA w' 4 db ad la (fun i => .bool (D i || M.1 i)) ∧ RowA w' 4 ib ai lb (fun i => .bool (I i || M.2 i)) ∧ But w.heap.size db ib w w' := by
  have hla := h.la
  have hlb := h.lb
  have hC := h.cs 9223372036854775807
  go_enter Try.func14, Try.ntmps14
  go_wp2_with fail
  refine (cmp_all _ _ db ib (w.heap.size + 1) 4096 D I none 9223372036854775807 _ a0 a1 b0 b1 M h1 h2 h3 h4 hC (fun t ht => by cases ht) (by omega) (by omega) hM).mono ?_
  rintro e w' ⟨rfl, S', st', hC', -, q1, q2, hK⟩
  have f6 : w'.cell? ⟨w.heap.size, 6, none⟩ = some (.int .i64 st') := by simp [World.cell?, hC'.obj]
  go_upto_region 3 with fail
  go_quiet (fail)
  go_wp2
  go_ret2
  refine ⟨⟨_, rfl⟩, fun hl => ?_, fun hl => ?_, hK.os, hK.tape, hK.output, ?_, fun k hk hx hy => ?_⟩
  · exact ⟨(h.d hl).1, (hC'.ha hl).2.2.2.1⟩
  · exact ⟨(h.i hl).1, (hC'.hb hl).2.2.2.1⟩
  · have := hK.size
    simp at this
    show w.heap.size ≤ w'.heap.size
    omega
  · have := hK.block k (by omega) (by simp; omega)
    show w'.heap[k]? = _
    rw [this]
    exact Below.heap_alloc _ _ _ hk
end Go.Proofs.Qxb6601687a

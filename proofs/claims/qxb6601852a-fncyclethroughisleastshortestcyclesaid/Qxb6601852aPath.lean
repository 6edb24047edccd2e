/-
  Tarjan's memory: the rows, the stack, the path of frames.
-/
import Derived.Test.Qxb6601852aGreedy
namespace Go.Proofs.Qxb6601852a
open Go.ChangeShapes Go.WideShapes Go.ChangeAt Go.RowKit

theorem Try.info42 : (Try.prog.info? 42).map (fun i => (i.zero, i.size, i.bytes)) = some (some (.agg #[.int .i64 0, .int .i64 0]), 2, 16) := by kernel_rfl
theorem Try.underlying43' : Try.prog.underlying 43 = some (.slice 42) := by kernel_rfl

/-- The cells of the frames. -/
def pf (pv pi : Nat → Nat) (i : Nat) : Value := .int .i64 (if i % 2 = 0 then pv (i / 2) else pi (i / 2) : Nat)
theorem pf_v (pv pi : Nat → Nat) (j : Nat) : pf pv pi (j * 2) = .int .i64 (pv j) := by
  unfold pf
  rw [if_pos (by omega), show j * 2 / 2 = j by omega]
theorem pf_i (pv pi : Nat → Nat) (j : Nat) : pf pv pi (j * 2 + 1) = .int .i64 (pi j) := by
  unfold pf
  rw [if_neg (by omega), show (j * 2 + 1) / 2 = j by omega]
theorem pf_congr {pv pi pv' pi' : Nat → Nat} {i : Nat} (h1 : pv (i / 2) = pv' (i / 2)) (h2 : pi (i / 2) = pi' (i / 2)) : pf pv pi i = pf pv' pi' i := by
  unfold pf
  rw [h1, h2]

/-- The path of frames at slice a. -/
def Pth (w : World) (N : Nat) (a : Option Addr) (m cap : Nat) (pv pi : Nat → Nat) : Prop := w.ownsRow N 42 2 (.slice a m cap) m ((List.range (m * 2)).map (pf pv pi))

section
variable {w w' : World} {N m cap g : Nat} {a : Option Addr} {pv pi : Nat → Nat}
theorem Pth.form (h : Pth w N a m cap pv pi) (hm : 1 ≤ m) : ∃ g, a = some ⟨g, 0, none⟩ ∧ N ≤ g ∧ g < w.heap.size := by
  obtain ⟨g, c, h1, h2, h3⟩ := World.ownsRow.form h hm
  simp only [Value.slice.injEq] at h1
  exact ⟨g, h1.1, h2, h3⟩
theorem Pth.lt (h : Pth w N a m cap pv pi) : ∀ k, ob a = some k → N ≤ k ∧ k < w.heap.size := fun k hk => World.ownsRow.lt h k (by rw [ownBlock_slice]; exact hk)
theorem Pth.cellv (h : Pth w N (some ⟨g, 0, none⟩) m cap pv pi) {j : Nat} (hj : j < m) : w.cell? ⟨g, j * 2, none⟩ = some (.int .i64 (pv j)) := by
  rw [World.ownsRow.cellAt h (j * 2) (by omega), List.getElem?_map, List.getElem?_range (by omega)]
  simp only [Option.map_some, pf_v]
theorem Pth.celli (h : Pth w N (some ⟨g, 0, none⟩) m cap pv pi) {j : Nat} (hj : j < m) : w.cell? ⟨g, j * 2 + 1, none⟩ = some (.int .i64 (pi j)) := by
  rw [World.ownsRow.cellAt h (j * 2 + 1) (by omega), List.getElem?_map, List.getElem?_range (by omega)]
  simp only [Option.map_some, pf_i]
theorem Pth.frozen (h : Pth w N (some ⟨g, 0, none⟩) m cap pv pi) (j : Nat) : w.frozen? ⟨g, j, none⟩ = false := World.ownsRow.frozenAt h j
theorem Pth.room (h : Pth w N a m cap pv pi) (hm : 1 ≤ m) : m ≤ cap := by
  rcases h.2 with ⟨_, h1⟩ | ⟨g, c, cur, h1, _, _, h2, _⟩
  · omega
  · simp only [Value.slice.injEq] at h1
    rw [h1.2.2]; exact h2
theorem Pth.of (h : Pth w N a m cap pv pi) (hb : ∀ k, ob a = some k → w'.heap[k]? = w.heap[k]?) : Pth w' N a m cap pv pi := by
  refine ⟨h.1, ?_⟩
  rcases h.2 with h1 | ⟨g, c, cur, h1, h2, h3, h4⟩
  · exact Or.inl h1
  · refine Or.inr ⟨g, c, cur, h1, h2, ?_, h4⟩
    rw [hb g (by simp only [Value.slice.injEq] at h1; rw [h1.1]; rfl)]
    exact h3
theorem Pth.congr {pv' pi' : Nat → Nat} (h : Pth w N a m cap pv pi) (h1 : ∀ j, j < m → pv j = pv' j) (h2 : ∀ j, j < m → pi j = pi' j) : Pth w N a m cap pv' pi' := by
  unfold Pth at h ⊢
  rw [show (List.range (m * 2)).map (pf pv' pi') = (List.range (m * 2)).map (pf pv pi) from List.map_congr_left (fun i hi => by
    have := List.mem_range.1 hi
    exact pf_congr (h1 _ (by omega)).symm (h2 _ (by omega)).symm)]
  exact h
theorem Pth.nil (w : World) (N : Nat) (pv pi : Nat → Nat) : Pth w N none 0 0 pv pi := World.ownsRow_nil w N 42 2
theorem Pth.one (w : World) (N : Nat) (hN : N ≤ w.heap.size) (x : Nat) : Pth (w.alloc (.cells #[.int .i64 x, .int .i64 0] 42)) N (some ⟨w.heap.size, 0, none⟩) 1 1 (fun _ => x) (fun _ => 0) :=
  World.ownsRow_lit w _ 1 hN (by unfold maxLen; omega) (by rfl)
theorem Pth.take (h : Pth w N (some ⟨g, 0, none⟩) m cap pv pi) {k : Nat} (hk : k ≤ m) : Pth w N (some ⟨g, 0, none⟩) k cap pv pi := by
  obtain ⟨h0, h1⟩ := h
  refine ⟨by simp, ?_⟩
  rcases h1 with ⟨h1, _⟩ | ⟨g', c, cur, h1, h2, h3, h4, h5, h6, h7⟩
  · simp at h1
  · simp only [Value.slice.injEq, Option.some.injEq, Addr.mk.injEq, and_true, true_and] at h1
    obtain ⟨rfl, rfl⟩ := h1
    refine Or.inr ⟨g, cap, cur, rfl, h2, h3, by omega, h5, h6, ?_⟩
    have : cur.toList.take (k * 2) = (cur.toList.take (m * 2)).take (k * 2) := by rw [List.take_take]; congr 1; omega
    rw [this, h7, ← List.map_take, List.take_range]
    rw [Nat.min_eq_left (by omega)]
theorem Pth.seti (h : Pth w N (some ⟨g, 0, none⟩) m cap pv pi) (j y : Nat) : Pth (w.setCell ⟨g, j * 2 + 1, none⟩ (.int .i64 y)) N (some ⟨g, 0, none⟩) m cap pv (Gr.upd pi j y) := by
  have h1 := (World.ownsRow.stored h (j * 2 + 1) (.int .i64 y)).1
  unfold Pth
  rw [show (List.range (m * 2)).map (pf pv (Gr.upd pi j y)) = ((List.range (m * 2)).map (pf pv pi)).set (j * 2 + 1) (.int .i64 y) from ?_]
  · exact h1
  · apply List.ext_getElem?
    intro i
    by_cases hi : i < m * 2
    · rw [List.getElem?_map, List.getElem?_range hi, List.getElem?_set]
      simp only [Option.map_some, List.length_map, List.length_range]
      by_cases e0 : j * 2 + 1 = i
      · subst e0
        rw [if_pos rfl, if_pos hi, pf_i, Gr.upd_same]
      · rw [if_neg e0, List.getElem?_map, List.getElem?_range hi]
        simp only [Option.map_some, Option.some.injEq]
        by_cases e1 : i / 2 = j
        · have : i = j * 2 := by omega
          subst this
          rw [pf_v, pf_v]
        · exact pf_congr rfl (Gr.upd_other _ _ e1)
    · rw [List.getElem?_eq_none (by simp; omega), List.getElem?_eq_none (by simp; omega)]
end

/-- What an append of one frame leaves. -/
structure PushedP (w w1 : World) (N : Nat) (a : Option Addr) (g m cap : Nat) (pv pi : Nat → Nat) (x : Nat) : Prop where
  pth : Pth w1 N (some ⟨g, 0, none⟩) (m + 1) cap (Gr.upd pv m x) (Gr.upd pi m 0)
  os : w1.os = w.os
  tape : w1.tape = w.tape
  output : w1.output = w.output
  size : w.heap.size < w1.heap.size
  block : ∀ k, k < w.heap.size → ob a ≠ some k → w1.heap[k]? = w.heap[k]?
  loc : ob a = some g ∨ w.heap.size < g
  lt : g < w1.heap.size

theorem path_law {ops : Array Oper} {rest : List Oper} {o : Oper} {act : Act} {Q : Exit → Act → World → Prop} (hgd : o.guard = none) (s x : Operand)
    (ho : o.op = .call { callee := .builtin .append, args := #[s, x], argTypes := #[43, 43] }) {w : World} {N : Nat} {a : Option Addr} {m cap : Nat} {pv pi : Nat → Nat} (hv : Pth w N a m cap pv pi) (x0 : Nat)
    (hs : act.eval s = .slice a m cap) (H : Nat) (hH : w.heap.size = H) (hx : act.eval x = .slice (some ⟨H, 0, none⟩) 1 1) (hm : m ≤ 1073741824) (hN : N ≤ w.heap.size)
    (h : ∀ g cap' w1, PushedP w w1 N a g m cap' pv pi x0 → wpList Try.prog ops Q rest (act.put o.dst (.slice (some ⟨g, 0, none⟩) (m + 1) cap')) w1) :
    wpList Try.prog ops Q (o :: rest) act (w.alloc (.cells #[.int .i64 x0, .int .i64 0] 42)) := by
  subst hH
  obtain ⟨i0, hi, hz0, hz1, hz2⟩ := info_parts Try.info42
  refine wpList_append_lies _ hgd s x 43 ho N 42 i0 _ 2 16 Try.underlying43' hi hz0 hz1 hz2 rfl (by omega) (.slice a m cap) m _ hs (World.ownsRow.alloc hv _) ⟨w.heap.size, 0, none⟩ 1 1 [.int .i64 x0, .int .i64 0] hx (by rfl) (World.news_of_block (heap_alloc_new w _)) (fun u hu => by simp at hu; rcases hu with rfl | rfl <;> rfl) (by omega) (by unfold maxLen; omega) (by omega) (by simp; omega) (w.heap.size + 1) (by simp) ?_
  intro g cap' w1 hown hgrow hat hlt
  rw [ownBlock_slice] at hgrow hat
  have hsz := hgrow.size
  simp at hsz
  refine h g cap' w1 ⟨?_, hgrow.os, hgrow.tape, hgrow.output, by omega, fun k hk hne => ?_, ?_, hlt⟩
  · have : (List.range (m * 2)).map (pf pv pi) ++ [.int .i64 x0, .int .i64 0] = (List.range ((m + 1) * 2)).map (pf (Gr.upd pv m x0) (Gr.upd pi m 0)) := by
      rw [show (m + 1) * 2 = m * 2 + 1 + 1 by omega, List.range_succ, List.range_succ, List.map_append, List.map_append, List.append_assoc]
      congr 1
      · refine List.map_congr_left (fun i hi => ?_)
        have := List.mem_range.1 hi
        exact pf_congr (Gr.upd_other _ _ (by omega)).symm (Gr.upd_other _ _ (by omega)).symm
      · simp only [List.map_cons, List.map_nil, List.singleton_append]
        rw [pf_v, pf_i, Gr.upd_same, Gr.upd_same]
        rfl
    unfold Pth
    rw [← this]
    exact hown
  · rw [hgrow.block k (by simp; omega) (fun e => hne e.symm), Below.heap_alloc _ _ _ hk]
  · rcases hat with h1 | h1
    · exact Or.inl h1
    · right; omega

theorem Vec.fits {w : World} {N m cap : Nat} {a : Option Addr} {f : Nat → Int} (h : Vec w N a m cap f) (hm : 1 ≤ m) : m ≤ cap := by
  rcases h.2 with ⟨_, h1⟩ | ⟨g, c, cur, h1, _, _, h2, _⟩
  · omega
  · simp only [Value.slice.injEq] at h1
    rw [h1.2.2]; exact h2

/-- Tarjan's memory: the rows found, low, held, result; the stack; the path. -/
structure TM (w0 w : World) (n : Nat) (found low : Nat → Nat) (held res : Nat → Bool) (sa : Option Addr) (z scap : Nat) (S : Nat → Nat) (pa : Option Addr) (m pcap : Nat) (pv pi : Nat → Nat) : Prop where
  f : w.rowIs w0.heap.size 3 n (fun v => .int .i64 (found v))
  l : w.rowIs (w0.heap.size + 1) 3 n (fun v => .int .i64 (low v))
  h : w.rowIs (w0.heap.size + 2) 4 n (fun v => .bool (held v))
  r : w.rowIs (w0.heap.size + 3) 4 n (fun v => .bool (res v))
  s : Vec w (w0.heap.size + 4) sa z scap (fun i => (S i : Int))
  p : Pth w (w0.heap.size + 4) pa m pcap pv pi
  ap : ∀ k, ob sa = some k → ob pa ≠ some k
  bel : Below w0.heap.size w0 w

section
variable {w0 w w' : World} {n : Nat} {found low : Nat → Nat} {held res : Nat → Bool} {sa : Option Addr} {z scap : Nat} {S : Nat → Nat} {pa : Option Addr} {m pcap : Nat} {pv pi : Nat → Nat}

theorem TM.drewN (h : TM w0 w n found low held res sa z scap S pa m pcap pv pi) (q : Nat) : TM w0 (w.drewN q) n found low held res sa z scap S pa m pcap pv pi :=
  ⟨h.f, h.l, h.h, h.r, h.s, h.p, h.ap, ⟨h.bel.os, h.bel.tape, h.bel.output, h.bel.size, h.bel.block⟩⟩
theorem TM.drew (h : TM w0 w n found low held res sa z scap S pa m pcap pv pi) : TM w0 w.drew n found low held res sa z scap S pa m pcap pv pi :=
  ⟨h.f, h.l, h.h, h.r, h.s, h.p, h.ap, h.bel.drew⟩
theorem rowN_upd {w : World} {b n x : Nat} {d : Nat → Nat} (h : w.rowIs b 3 n (fun v => .int .i64 (d v))) (y : Nat) : (w.setCell ⟨b, x, none⟩ (.int .i64 y)).rowIs b 3 n (fun v => .int .i64 (Gr.upd d x y v : Nat)) :=
  (h.set x (.int .i64 y)).congr (fun v _ => by
    by_cases e0 : v = x
    · subst e0; simp [Gr.upd_same]
    · simp [e0, Gr.upd_other])
theorem rowB_upd {w : World} {b n x : Nat} {d : Nat → Bool} (h : w.rowIs b 4 n (fun v => .bool (d v))) (y : Bool) : (w.setCell ⟨b, x, none⟩ (.bool y)).rowIs b 4 n (fun v => .bool (Gr.upd d x y v)) :=
  (h.set x (.bool y)).congr (fun v _ => by
    by_cases e0 : v = x
    · subst e0; simp [Gr.upd_same]
    · simp [e0, Gr.upd_other])
/-- A store into one of the rows leaves the stack and the path. -/
theorem TM.far (h : TM w0 w n found low held res sa z scap S pa m pcap pv pi) {p : Addr} (hp : p.block < w0.heap.size + 4) (u : Value) :
    Vec (w.setCell p u) (w0.heap.size + 4) sa z scap (fun i => (S i : Int)) ∧ Pth (w.setCell p u) (w0.heap.size + 4) pa m pcap pv pi :=
  ⟨h.s.of (fun k hk => Below.heap_setCell _ _ _ _ (by have := (h.s.lt k hk).1; omega)), h.p.of (fun k hk => Below.heap_setCell _ _ _ _ (by have := (h.p.lt k hk).1; omega))⟩
theorem TM.setF (h : TM w0 w n found low held res sa z scap S pa m pcap pv pi) (x y : Nat) : TM w0 (w.setCell ⟨w0.heap.size, x, none⟩ (.int .i64 y)) n (Gr.upd found x y) low held res sa z scap S pa m pcap pv pi :=
  ⟨rowN_upd h.f y, h.l.setOther (by simp only; omega) _, h.h.setOther (by simp only; omega) _, h.r.setOther (by simp only; omega) _, (h.far (by simp only; omega) _).1, (h.far (by simp only; omega) _).2, h.ap, h.bel.setCell (by simp only; omega) _⟩
theorem TM.setL (h : TM w0 w n found low held res sa z scap S pa m pcap pv pi) (x y : Nat) : TM w0 (w.setCell ⟨w0.heap.size + 1, x, none⟩ (.int .i64 y)) n found (Gr.upd low x y) held res sa z scap S pa m pcap pv pi :=
  ⟨h.f.setOther (by simp only; omega) _, rowN_upd h.l y, h.h.setOther (by simp only; omega) _, h.r.setOther (by simp only; omega) _, (h.far (by simp only; omega) _).1, (h.far (by simp only; omega) _).2, h.ap, h.bel.setCell (by simp only; omega) _⟩
theorem TM.setH (h : TM w0 w n found low held res sa z scap S pa m pcap pv pi) (x : Nat) (y : Bool) : TM w0 (w.setCell ⟨w0.heap.size + 2, x, none⟩ (.bool y)) n found low (Gr.upd held x y) res sa z scap S pa m pcap pv pi :=
  ⟨h.f.setOther (by simp only; omega) _, h.l.setOther (by simp only; omega) _, rowB_upd h.h y, h.r.setOther (by simp only; omega) _, (h.far (by simp only; omega) _).1, (h.far (by simp only; omega) _).2, h.ap, h.bel.setCell (by simp only; omega) _⟩
theorem TM.setR (h : TM w0 w n found low held res sa z scap S pa m pcap pv pi) (x : Nat) (y : Bool) : TM w0 (w.setCell ⟨w0.heap.size + 3, x, none⟩ (.bool y)) n found low held (Gr.upd res x y) sa z scap S pa m pcap pv pi :=
  ⟨h.f.setOther (by simp only; omega) _, h.l.setOther (by simp only; omega) _, h.h.setOther (by simp only; omega) _, rowB_upd h.r y, (h.far (by simp only; omega) _).1, (h.far (by simp only; omega) _).2, h.ap, h.bel.setCell (by simp only; omega) _⟩
theorem TM.setI {g : Nat} (h : TM w0 w n found low held res sa z scap S (some ⟨g, 0, none⟩) m pcap pv pi) (j y : Nat) : TM w0 (w.setCell ⟨g, j * 2 + 1, none⟩ (.int .i64 y)) n found low held res sa z scap S (some ⟨g, 0, none⟩) m pcap pv (Gr.upd pi j y) := by
  have hg := (h.p.lt g rfl).1
  exact ⟨h.f.setOther (by simp only; omega) _, h.l.setOther (by simp only; omega) _, h.h.setOther (by simp only; omega) _, h.r.setOther (by simp only; omega) _, h.s.of (fun k hk => Below.heap_setCell _ _ _ _ (by have := h.ap k hk; simp only; intro e0; exact this (by rw [e0]; rfl))), h.p.seti j y, h.ap, h.bel.setCell (by simp only; omega) _⟩
theorem TM.low4 (h : TM w0 w n found low held res sa z scap S pa m pcap pv pi) : w0.heap.size + 4 ≤ w.heap.size := h.r.lt
/-- The stack has grown by one. -/
theorem TM.pushS {g cap x : Nat} (h : TM w0 w n found low held res sa z scap S pa m pcap pv pi) (hp : Pushed w w' (w0.heap.size + 4) sa g z cap (fun i => (S i : Int)) x) :
    TM w0 w' n found low held res (some ⟨g, 0, none⟩) (z + 1) cap (Gr.upd S z x) pa m pcap pv pi := by
  have h4 := h.low4
  have hb : ∀ k, k < w0.heap.size + 4 → w'.heap[k]? = w.heap[k]? := fun k hk => hp.block k (by omega) (fun e0 => by have := (h.s.lt k e0).1; omega)
  refine ⟨rowIs_of h.f (hb _ (by omega)), rowIs_of h.l (hb _ (by omega)), rowIs_of h.h (hb _ (by omega)), rowIs_of h.r (hb _ (by omega)), hp.vec.congr (fun i hi => ?_), h.p.of (fun k hk => hp.block k (h.p.lt k hk).2 (fun e0 => h.ap k e0 hk)), fun k hk hk' => ?_, ⟨hp.os.trans h.bel.os, hp.tape.trans h.bel.tape, hp.output.trans h.bel.output, by have := hp.size; have := h.bel.size; omega, fun k hk => (hb k (by omega)).trans (h.bel.block k hk)⟩⟩
  · by_cases e0 : i = z
    · subst e0; rw [Gr.upd_same, Gr.upd_same]
    · rw [Gr.upd_other _ _ e0, Gr.upd_other _ _ e0]
  · have hg : g = k := by simpa [ob] using hk
    subst hg
    rcases hp.loc with h1 | h1
    · exact h.ap g h1 hk'
    · have := (h.p.lt g hk').2; omega
/-- The path has grown by one. -/
theorem TM.pushP {g cap x : Nat} (h : TM w0 w n found low held res sa z scap S pa m pcap pv pi) (hp : PushedP w w' (w0.heap.size + 4) pa g m cap pv pi x) :
    TM w0 w' n found low held res sa z scap S (some ⟨g, 0, none⟩) (m + 1) cap (Gr.upd pv m x) (Gr.upd pi m 0) := by
  have h4 := h.low4
  have hb : ∀ k, k < w0.heap.size + 4 → w'.heap[k]? = w.heap[k]? := fun k hk => hp.block k (by omega) (fun e0 => by have := (h.p.lt k e0).1; omega)
  refine ⟨rowIs_of h.f (hb _ (by omega)), rowIs_of h.l (hb _ (by omega)), rowIs_of h.h (hb _ (by omega)), rowIs_of h.r (hb _ (by omega)), h.s.of (fun k hk => hp.block k (h.s.lt k hk).2 (h.ap k hk)), hp.pth, fun k hk hk' => ?_, ⟨hp.os.trans h.bel.os, hp.tape.trans h.bel.tape, hp.output.trans h.bel.output, by have := hp.size; have := h.bel.size; omega, fun k hk => (hb k (by omega)).trans (h.bel.block k hk)⟩⟩
  have hg : g = k := by simpa [ob] using hk'
  subst hg
  rcases hp.loc with h1 | h1
  · exact h.ap g hk h1
  · have := (h.s.lt g hk).2; omega
theorem TM.takeS {g k : Nat} (h : TM w0 w n found low held res (some ⟨g, 0, none⟩) z scap S pa m pcap pv pi) (hk : k ≤ z) : TM w0 w n found low held res (some ⟨g, 0, none⟩) k scap S pa m pcap pv pi :=
  ⟨h.f, h.l, h.h, h.r, h.s.take hk, h.p, h.ap, h.bel⟩
theorem TM.takeP {g k : Nat} (h : TM w0 w n found low held res sa z scap S (some ⟨g, 0, none⟩) m pcap pv pi) (hk : k ≤ m) : TM w0 w n found low held res sa z scap S (some ⟨g, 0, none⟩) k pcap pv pi :=
  ⟨h.f, h.l, h.h, h.r, h.s, h.p.take hk, h.ap, h.bel⟩
/-- The path is over. -/
theorem TM.noP (h : TM w0 w n found low held res sa z scap S pa m pcap pv pi) : TM w0 w n found low held res sa z scap S none 0 0 pv pi :=
  ⟨h.f, h.l, h.h, h.r, h.s, Pth.nil _ _ _ _, fun k hk e0 => (by simp [ob] at e0), h.bel⟩
/-- A path of one frame, in a new block. -/
theorem TM.oneP (h : TM w0 w n found low held res sa z scap S none 0 0 pv pi) (x : Nat) :
    TM w0 (w.alloc (.cells #[.int .i64 x, .int .i64 0] 42)) n found low held res sa z scap S (some ⟨w.heap.size, 0, none⟩) 1 1 (fun _ => x) (fun _ => 0) :=
  ⟨h.f.alloc _, h.l.alloc _, h.h.alloc _, h.r.alloc _, h.s.of (fun k hk => Below.heap_alloc _ _ _ (h.s.lt k hk).2), Pth.one w _ h.low4 x, fun k hk hk' => by
    have : w.heap.size = k := by simpa [ob] using hk'
    have := (h.s.lt k hk).2
    omega, h.bel.alloc h.bel.size _⟩
end
end Go.Proofs.Qxb6601852a

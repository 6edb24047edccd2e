/-
  zzGreedyCycle and zzIntsEqual.
-/
import Derived.Test.Qxb6601852aDist
namespace Go.Proofs.Qxb6601852a
open Go.ChangeShapes Go.WideShapes Go.ChangeAt Go.RowKit

namespace Gr
/-- The greedy chain so far. -/
structure PC (L : Nat → Nat) (e : Nat → Nat → Nat) (n : Nat) (d : Nat → Int) (s N j : Nat) (c : Nat → Nat) : Prop where
  c0 : c 0 = s
  lt : ∀ k, k ≤ j → c k < n
  step : ∀ k, k < j → ∃ p, p < L (c k) ∧ e (c k) p = c (k + 1) ∧ d (c (k + 1)) = (N : Int) - 1 - k ∧ ∀ p', p' < p → d (e (c k) p') ≠ (N : Int) - 1 - k

section
variable {L : Nat → Nat} {e : Nat → Nat → Nat} {n : Nat} {d : Nat → Int} {s N j : Nat} {c : Nat → Nat}
theorem PC.push (h : PC L e n d s N j c) (hW : WF L e n) {p : Nat} (hp : p < L (c j)) (hd : d (e (c j) p) = (N : Int) - 1 - j) (hno : ∀ p', p' < p → d (e (c j) p') ≠ (N : Int) - 1 - j) :
    PC L e n d s N (j + 1) (upd c (j + 1) (e (c j) p)) := by
  have hc : ∀ k, k ≤ j → upd c (j + 1) (e (c j) p) k = c k := fun k hk => upd_other _ _ (by omega)
  refine ⟨by rw [hc 0 (by omega)]; exact h.c0, fun k hk => ?_, fun k hk => ?_⟩
  · by_cases e0 : k = j + 1
    · subst e0; rw [upd_same]; exact hW.lt _ (h.lt j (Nat.le_refl _)) p hp
    · rw [hc k (by omega)]; exact h.lt k (by omega)
  · by_cases e0 : k = j
    · subst e0
      rw [hc k (Nat.le_refl _), upd_same]
      exact ⟨p, hp, rfl, hd, hno⟩
    · rw [hc k (by omega), hc (k + 1) (by omega)]; exact h.step k (by omega)
theorem PC.done (h : PC L e n d s N N c) : Ch L e n d s N c := ⟨h.c0, h.lt, h.step⟩
/-- There is an entry to take. -/
theorem PC.more (h : PC L e n d s N j c) (hW : WF L e n) (hd : IsDist (Ed L e) n s d) (hj : j < N) (h0 : ∃ p, p < L s ∧ d (e s p) = (N : Int) - 1) : ∃ p, p < L (c j) ∧ d (e (c j) p) = (N : Int) - 1 - j := by
  by_cases e0 : j = 0
  · subst e0
    rw [h.c0]
    obtain ⟨p, h1, h2⟩ := h0
    exact ⟨p, h1, by omega⟩
  · obtain ⟨p, h1, h2, h3, _⟩ := h.step (j - 1) (by omega)
    rw [show j - 1 + 1 = j by omega] at h2 h3
    have hlt := h.lt j (Nat.le_refl _)
    have h4 := hd.walk hlt (by omega)
    rw [show (d (c j)).toNat = (N - 1 - j) + 1 by omega] at h4
    obtain ⟨x, ⟨p', h5, h6⟩, h7⟩ := h4
    refine ⟨p', h5, ?_⟩
    have hx : x < n := by rw [← h6]; exact hW.lt _ hlt p' h5
    obtain ⟨h8, h9⟩ := hd.le hx h7
    have h10 := hd.le (x := (d x).toNat + 1) hlt ⟨x, ⟨p', h5, h6⟩, hd.walk hx h8⟩
    rw [h6]
    omega
end
end Gr

def GreedyPost (L : Nat → Nat) (e : Nat → Nat → Nat) (n : Nat) (d : Nat → Int) (s N : Nat) (w : World) (en : Ending) (w' : World) : Prop :=
  ∃ (g cap : Nat) (c : Nat → Nat), en = .returned (.slice (some ⟨g, 0, none⟩) (N + 1) cap) ∧ g < w'.heap.size ∧ (∀ k, k < N + 1 → w'.cell? ⟨g, k, none⟩ = some (.int .i64 (c k))) ∧ Gr.Ch L e n d s N c ∧ Below w.heap.size w w'

set_option maxRecDepth 100000 in
set_option maxHeartbeats 4000000 in
theorem greedy_any {w : World} {a : Option Addr} {B n : Nat} {A : Nat → Option Addr} {L C : Nat → Nat} {e : Nat → Nat → Nat} (hG : Gm w a B n A L C e) (hW : Gr.WF L e n) (hn : n ≤ 4096) (hL : Hid (∀ r, r < n → L r ≤ 131072))
    {bd s N : Nat} {d : Nat → Int} (hD : w.rowIs bd 3 n (fun v => .int .i64 (d v))) (hd : Hid (Gr.IsDist (Gr.Ed L e) n s d)) (hs : s < n) (hN : N ≤ n) (hN1 : 1 ≤ N) (h0 : Hid (∃ p, p < L s ∧ d (e s p) = (N : Int) - 1)) :
    Calls Try.prog 20 #[.slice a n n, .slice (some ⟨bd, 0, none⟩) n n, .int .i64 s, .int .i64 N] w (GreedyPost L e n d s N w) := by
  have hmk := run_make_room (P := Try.prog) 28 3 (.int .i64 0) 8 Try.underlying28 Try.info3 rfl .i64 .i64 (N + 1) (by omega) (by omega)
  rw [show ((N + 1 : Nat) : Int) = (N : Int) + 1 by omega] at hmk
  have hv := Vec.room w w.heap.size (N + 1) (Nat.le_refl _) (by omega) (fun _ => 0)
  have hs1 : (w.alloc (.cells (madeCells #[.int .i64 0] (N + 1)) 3)).heap.size = w.heap.size + 1 := by simp
  have hb1 : Below w.heap.size w (w.alloc (.cells (madeCells #[.int .i64 0] (N + 1)) 3)) := (Below.refl _ _).alloc (Nat.le_refl _) _
  obtain ⟨rfl, hB, -⟩ := hG.row s hs
  go_enter Try.func20, Try.ntmps20
  go_upto_region 2 with fail
  clear hmk
  generalize w.alloc (.cells (madeCells #[.int .i64 0] (N + 1)) 3) = w1 at hv hs1 hb1 ⊢
  go_wp2_with (at_builtin; refine push_law (by rfl) _ _ (by rfl) hv s (by rfl) _ hs1 (by rfl) (by omega) (by omega) ?_)
  intro g0 cap0 w2 hp
  have hV : Vec w2 w.heap.size (some ⟨g0, 0, none⟩) 1 cap0 (fun _ => (s : Int)) := hp.vec.congr (fun i hi => by rw [show i = 0 by omega, Gr.upd_same])
  have hbel : Below w.heap.size w w2 := hb1.trans (hp.below (fun k hk => by simp [ob] at hk; omega) (by omega))
  have hPC : Hid (Gr.PC L e n d s N 0 (fun _ => s)) := ⟨rfl, fun _ _ => hs, fun k hk => absurd hk (by omega)⟩
  clear hp hv hs1 hb1
  go_wp2_with fail
  go_loopg [9, 10, 11] N (fun gm X Y Z wr => ∃ (j g cap : Nat) (c : Nat → Nat), j ≤ N ∧ X = .slice (some ⟨g, 0, none⟩) (j + 1) cap ∧ Y = .int .i64 (c j) ∧ Z = .int .i64 ((N : Int) - j) ∧ gm = N - j ∧ Vec wr w.heap.size (some ⟨g, 0, none⟩) (j + 1) cap (fun i => (c i : Int)) ∧ Below w.heap.size w wr ∧ Hid (Gr.PC L e n d s N j c))
  case atStart => exact ⟨0, g0, cap0, fun _ => s, Nat.zero_le _, rfl, rfl, by simp, rfl, hV, hbel, hPC⟩
  case round =>
    clear hV hbel hPC
    obtain ⟨j, g, cap, c, hj, rfl, rfl, rfl, hgm, hV, hbel, hPC⟩ := hrel
    have hcn := hPC.out.lt j (Nat.le_refl _)
    have hG1 := hG.later hbel
    obtain ⟨-, -, hc0⟩ := hG1.row (c j) hcn
    have hLc := hL.out (c j) hcn
    have icn : ((c j : Nat) : Int) < n := by omega
    by_cases hlt : (N : Int) - j > 0
    · have hj' : j < N := by omega
      have hmore : Hid (∃ p, p < L (c j) ∧ d (e (c j) p) = (N : Int) - 1 - j) := hPC.out.more hW hd.out hj' h0.out
      go_wp2_with fail
      go_loopg [13] (L (c j)) (fun gm X wr' => ∃ (k : Nat), k ≤ L (c j) ∧ X = .int .i64 k ∧ gm = L (c j) - k ∧ wr' = wr ∧ Hid (∀ p', p' < k → d (e (c j) p') ≠ (N : Int) - 1 - j))
      case atStart => exact ⟨0, Nat.zero_le _, rfl, rfl, rfl, fun p' hp' => absurd hp' (by omega)⟩
      case round =>
        obtain ⟨k, hk, rfl, hgk, rfl, hno⟩ := hrel
        by_cases hlt' : (k : Int) < L (c j)
        · have hk' : k < L (c j) := by omega
          obtain ⟨b, hc1, hc2⟩ := hG1.at hcn hk'
          have hen := hW.lt _ hcn k hk'
          have ien : ((e (c j) k : Nat) : Int) < n := by omega
          have c3 := (rowIs_of hD (hbel.block _ hD.lt)).cell hen
          by_cases heq : d (e (c j) k) = (N : Int) - 1 - j
          · have heq' : (d (e (c j) k) == (N : Int) - j - 1) = true := by simp; omega
            have hPC2 : Hid (Gr.PC L e n d s N (j + 1) (Gr.upd c (j + 1) (e (c j) k))) := hPC.out.push hW hk' heq hno.out
            have iw : (N : Int) - j - 1 ≤ 4096 := by omega
            clear heq hno hc0 hmore hPC
            go_wp2_with (at_builtin; refine push_law (by rfl) _ _ (by rfl) hV (e (c j) k) (by rfl) _ rfl (by rfl) (by omega) (by have := hbel.size; omega) ?_)
            intro g1 cap1 w3 hp
            have hV2 : Vec w3 w.heap.size (some ⟨g1, 0, none⟩) (j + 1 + 1) cap1 (fun i => ((Gr.upd c (j + 1) (e (c j) k) i : Nat) : Int)) := hp.vec.congr (fun i hi => by
              by_cases e0 : i = j + 1
              · subst e0; rw [Gr.upd_same, Gr.upd_same]
              · rw [Gr.upd_other _ _ e0, Gr.upd_other _ _ e0])
            have hbel2 : Below w.heap.size w w3 := hbel.trans (hp.below (fun x hx => (hV.lt x hx).1) hbel.size)
            clear hp hV hbel hc1 hc2 c3 hG1
            go_wp2
            go_roundg (N - (j + 1))
            case measure => omega
            case rel => exact ⟨j + 1, g1, cap1, _, by omega, rfl, by rw [Gr.upd_same], by go_num, rfl, hV2, hbel2, hPC2⟩
          · have heq' : (d (e (c j) k) == (N : Int) - j - 1) = false := by simp; omega
            have hno2 : Hid (∀ p', p' < k + 1 → d (e (c j) p') ≠ (N : Int) - 1 - j) := fun p' hp' => by
              by_cases e0 : p' = k
              · subst e0; exact heq
              · exact hno.out p' (by omega)
            clear heq hno hc0
            go_wp2
            go_roundg (L (c j) - (k + 1))
            case measure => omega
            case rel => exact ⟨k + 1, by omega, by go_num, rfl, rfl, hno2⟩
        · exfalso
          obtain ⟨p, hp1, hp2⟩ := hmore.out
          exact hno.out p (by omega) hp2
    · obtain rfl : j = N := by omega
      go_wp2
      go_ret
      exact ⟨g, cap, c, rfl, (hV.lt g rfl).2, fun k hk => hV.cell hk, hPC.out.done, hbel⟩

set_option maxHeartbeats 1000000 in
/-- Two slices that read alike are equal. -/
theorem equal_any {w : World} {g g' m cap cap' : Nat} {f : Nat → Int} (hm : m ≤ 1073741824) (h : ∀ k, k < m → w.cell? ⟨g, k, none⟩ = some (.int .i64 (f k))) (h' : ∀ k, k < m → w.cell? ⟨g', k, none⟩ = some (.int .i64 (f k))) :
    Calls Try.prog 22 #[.slice (some ⟨g, 0, none⟩) m cap, .slice (some ⟨g', 0, none⟩) m cap'] w fun en w' => en = .returned (.bool true) ∧ Below w.heap.size w w' := by
  go_enter Try.func22, Try.ntmps22
  go_wp2_with fail
  go_loopg [5] m (fun gm i wr => ∃ (k : Nat), k ≤ m ∧ i = .int .i64 k ∧ gm = m - k ∧ wr.heap = w.heap ∧ Below w.heap.size w wr)
  case atStart => exact ⟨0, Nat.zero_le _, rfl, rfl, rfl, Below.refl _ _⟩
  case round =>
    obtain ⟨k, hk, rfl, hgm, hh, hb⟩ := hrel
    by_cases hlt : (k : Int) < m
    · have c1 : wr.cell? ⟨g, k, none⟩ = some (.int .i64 (f k)) := by rw [World.cell?_of_block (w := w) (by rw [hh])]; exact h k (by omega)
      have c2 : wr.cell? ⟨g', k, none⟩ = some (.int .i64 (f k)) := by rw [World.cell?_of_block (w := w) (by rw [hh])]; exact h' k (by omega)
      go_upto_region 6 with fail
      go_quiet (fail)
      have hh2 : (wr.drewN nq).heap = w.heap := hh
      have hb2 : Below w.heap.size w (wr.drewN nq) := ⟨hb.os, hb.tape, hb.output, hb.size, hb.block⟩
      clear c1 c2 hh hb
      go_wp2
      go_roundg (m - (k + 1))
      case measure => omega
      case rel => exact ⟨k + 1, by omega, by go_num, rfl, hh2, hb2⟩
    · go_wp2
      go_ret
      exact ⟨rfl, hb⟩
end Go.Proofs.Qxb6601852a

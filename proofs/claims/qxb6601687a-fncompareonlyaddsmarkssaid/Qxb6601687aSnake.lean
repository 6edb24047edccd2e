import Derived.Test.Qxb6601687aCLoop
import Derived.Deep.CutRange
import Derived.Deep.CutBlock
import Derived.Deep.LoopGhost
import Derived.Deep.QuietTactic
import Derived.BigQuiet
namespace Go.Proofs.Qxb6601687a
open Go.ChangeShapes Go.WideShapes Go.ChangeAt Go.RowKit

/-- What middleSnake leaves. -/
def SnakePost (P : Lay) (vd vi : Value) (n m st : Int) (r : Int × Int × Int × Int) (w : World) (e : Ending) (w' : World) : Prop :=
  e = .returned (.tuple #[.int .i64 r.1, .int .i64 r.2.1, .int .i64 r.2.2.1, .int .i64 r.2.2.2, .bool true]) ∧ ∃ F B st', MS P vd vi n m F B st' w' ∧ st - 1099511627776 ≤ st' ∧ st' ≤ st ∧ KeptBut [P.L, P.fb, P.gb] w w'

theorem results_tmp5 {fn : Func} {t0 t1 t2 t3 t4 : Tmp} (h : fn.results = #[.tmp t0, .tmp t1, .tmp t2, .tmp t3, .tmp t4]) (tmps : Array Value) (P : Program) (w : World) :
    (results fn tmps).run P w = .ok (.tuple #[tmps.getD t0 undef, tmps.getD t1 undef, tmps.getD t2 undef, tmps.getD t3 undef, tmps.getD t4 undef]) w := by
  simp [results, h]

set_option maxRecDepth 100000 in
set_option maxHeartbeats 4000000 in
theorem snake_any (P : Lay) (vd vi : Value) (a0 a1 b0 b1 n m st : Int) (F0 B0 : Int → Int) (r : Int × Int × Int × Int) (w : World)
    (hN : Nums P a0 b0 n m) (ea : Hid (a1 - a0 = n)) (eb : Hid (b1 - b0 = m)) (ha1 : a0 ≤ a1) (ha2 : a1 ≤ 1024) (hb1 : b0 ≤ b1) (hb2 : b1 ≤ 1024)
    (hM : MS P vd vi n m F0 B0 st w) (hr : Hid (My.snakeOf (eqf P a0 b0) n m = some r)) (hst : 1099511627776 ≤ st) (hst2 : st ≤ 9223372036854775807) :
    Calls Try.prog 33 #[.pointer (some ⟨P.L, 0, none⟩), .int .i64 a0, .int .i64 a1, .int .i64 b0, .int .i64 b1] w (SnakePost P vd vi n m st r w) := by
  obtain ⟨n1, m1, n2, m2, ha, hb, hal, hbl, hla, hlb, hsz⟩ := id hN
  go_enter Try.func33, Try.ntmps33
  go_upto_region 1 with fail
  go_cut [15, 16] from 38 to 43 (fun N M w' => w' = w ∧ N = .int .i64 n ∧ M = .int .i64 m)
  case first =>
    go_wp2_with fail
    go_meet
    case rel => exact ⟨rfl, by rw [← ea.out], by rw [← eb.out]⟩
  case rest =>
    obtain ⟨rfl, rfl, rfl⟩ := hcut
    have f1 := hM.fb0
    have f2 := hM.gb0
    have room := hM.room
    have hs0 : (0 : Int) ≤ n + m + 3 := by omega
    have hs1 : n + m + 3 ≤ (P.sz : Int) := room
    go_upto_region 4 with fail
    go_quiet (fail)
    have hM0 : MS P vd vi n m F0 B0 st (wc.drewN nq) := hM.drewN nq
    have K0 : KeptBut [P.L, P.fb, P.gb] wc (wc.drewN nq) := KeptBut.drewN _ _ _
    have hT : ((n + m + 3).toNat : Int) = n + m + 3 := by omega
    obtain ⟨p1, p2, p3, p4, p5, p6, p7, p8, p9⟩ := hM.apart
    clear hM f1 f2
    go_wp2_with fail
    go_loopw [69, 21] (fun i v wr => ∃ j : Nat, (j : Int) ≤ n + m + 3 ∧ i = .int .i64 j ∧ ∃ F B, MS P vd vi n m F B st wr ∧ Hid (∀ k, -(m + 1) ≤ k → k + (m + 1) < j → F k = -1 ∧ B k = -1) ∧ KeptBut [P.L, P.fb, P.gb] wc wr) (fun i _ _ => (n + m + 3).toNat - (intOf i).toNat)
    case atStart => exact ⟨0, by omega, rfl, F0, B0, hM0, fun k h1 h2 => by omega, K0⟩
    case round =>
      obtain ⟨j, hj, rfl, F, B, hM, hz, hK⟩ := hrel
      clear hM0 K0
      by_cases hlt : (j : Int) < n + m + 3
      · obtain ⟨c1, c2⟩ := hM.fcell (k := j - (m + 1)) (by omega) (by omega)
        obtain ⟨c3, c4⟩ := hM.gcell (k := j - (m + 1)) (by omega) (by omega)
        rw [show ((j : Int) - (m + 1) + (m + 1)).toNat = j by omega] at c1 c2 c3 c4
        have hM' := hM.clear hlt
        have hK' := (hK.setCell (p := ⟨P.fb, j, none⟩) (by simp) (.int .i64 (-1))).setCell (p := ⟨P.gb, j, none⟩) (by simp) (.int .i64 (-1))
        go_wp2
        go_roundw
        case rel =>
          refine ⟨j + 1, by omega, by go_num, _, _, hM', ?_, hK'⟩
          intro k h1 h2
          by_cases e : k = j - (m + 1)
          · subst e; exact ⟨My.upd_same _ _ _, My.upd_same _ _ _⟩
          · rw [My.upd_other _ _ e, My.upd_other _ _ e]; exact hz.out k h1 (by omega)
        case measure => simp [intOf]; omega
      · have hM' : MS P vd vi n m (fun _ => -1) (fun _ => -1) st wr := hM.congr (fun k h1 h2 => (hz.out k h1 (by omega)).1) (fun k h1 h2 => (hz.out k h1 (by omega)).2)
        clear hM hz
        go_upto_region 10 with fail
        go_wp2_with fail
        refine cloop_wp P vd vi a0 a1 b0 b1 n m st r _ wc _ _ _ _ _ _ _ _ _ _ _ _ _ _ _ _ _ _ _ _ _ _ _ _ _ _ _ _ _ _ _ _ _ _ _ _ _ _ _ _ _ _ _ _ _ _ _ _ _ _ _ _ _ _ _ _ _ _ _ _ _ _ _ _ _ _ _ _ _ _ _ _ _ _ _ _ _ _ _ _ _ _ _ _ _ _ _ _ _ _ _ _ _ _ _ _ _ _ _ _ _ _ _ _ _ _ _ _ _ _ _ _ _ _ _ _ _ _ _ _ _ _ _ _ _ _ _ _ _ _ _ _ _ _ _ _ _ _ _ _ _ _ _ _ _ _ _ _ _ _ _ _ _ _ _ _ _ _ _ _ _ _ _ _ _ _ _ _ _ _ _ _ _ _ _ _ _ _ _ _ _ _ _ _ _ _ _ _ _ _ _ _ _ _ _ _ _ _ _ _ _ _ _ _ _ _ _ _ _ _ _ _ _ _ _ _ _ _ _ _ _ _ _ _ _ _ _ _ _ _ _ _ _ _ _ _ _ _ _ _ _ _ _ _ _ _ _ _ _ _ _ _ _ _ _ _ _ _ _ _ _ _ _ _ _ _ _ _ _ _ _ _ _ _ _ _ _ _ _ _ _ _ _ _ _ _ _ _ _ _ _ _ _ _ _ _ _ _ _ _ _ _ _ _ _ _ _ _ _ _ _ _ _ _ _ _ _ _ _ _ _ _ _ _ _ _ _ _ _ _ _ _ _ _ _ _ _ _ _ _ _ _ _ _ _ _ _ _ _ _ _ _ _ _ _ _ _ _ _ _ _ _ _ _ _ _ _ _ _ _ _ _ _ _ _ _ _ _ _ _ _ _ _ _ _ _ _ _ _ _ _ _ _ _ _ _ _ _ _ _ _ _ _ _ _ _ _ _ _ _ _ _ _ _ _ _ _ _ _ _ _ _ _ _ _ _ hN hst hst2 hM' hK hr ?_
        intro a F' B' s1 w1 e1 e2 e3 e4 e5 e6 hM2 hK2 q1 q2
        simp only [Exit.inBlock, Exit.then]
        refine bodyPost_ret (results_tmp5 rfl _ _ _) e1 ?_
        exact ⟨by rw [e2, e3, e4, e5, e6], F', B', s1, hM2, q1, q2, hK2⟩
end Go.Proofs.Qxb6601687a

import Derived.Test.Qxb6601712aFront
import Derived.Test.Qxb6601712aModel
namespace Go.Proofs.Qxb6601712a
open Go.ChangeShapes Go.WideShapes Go.ChangeAt Go.RowKit

set_option maxHeartbeats 1000000 in
/-- The layout is not well formed: true at once. -/
theorem mo_bad (a0 a1 a2 a3 a4 a5 : Option Addr) (l0 l1 l2 l3 l4 l5 c0 c1 c2 c3 c4 c5 : Nat) (x6 x7 x8 x9 x10 : Int) (w : World)
    (q0 : l0 ≤ 4096) (q1 : l1 ≤ 4096) (q2 : l2 ≤ 4096) (q3 : l3 ≤ 4096) (q4 : l4 ≤ 4096) (q5 : l5 ≤ 4096)
    (hwf : Hid (Calls Try.prog 15 #[.slice a0 l0 c0, .slice a1 l1 c1, .slice a2 l2 c2, .slice a3 l3 c3, .slice a4 l4 c4, .slice a5 l5 c5, .int .i64 x7] w fun e w' => e = .returned (.bool false) ∧ w' = w)) :
    Calls Try.prog 6 #[.slice a0 l0 c0, .slice a1 l1 c1, .slice a2 l2 c2, .slice a3 l3 c3, .slice a4 l4 c4, .slice a5 l5 c5, .int .u64 x6, .int .i64 x7, .int .u64 x8, .int .i64 x9, .int .u64 x10] w
      fun e w' => e = .returned (.bool true) ∧ Below w.heap.size w w' := by
  go_enter Try.func6, Try.ntmps6
  go_wp2_with fail
  refine (bytes14 _ _ _ _ _ _ _ _ _ _ _ _ _ _ _ _ _ _ _ _ _ _ _ _).mono ?_
  rintro e w' ⟨⟨r, rfl⟩, rfl⟩
  cases r
  · go_wp2
    go_ret
    exact ⟨rfl, Below.refl _ _⟩
  · go_wp2_with fail
    refine hwf.out.mono ?_
    rintro e w' ⟨rfl, rfl⟩
    go_wp2
    go_ret
    exact ⟨rfl, Below.refl _ _⟩

set_option maxHeartbeats 1000000 in
/-- The layout is well formed: the copies, the layout, the two questions. -/
theorem mo_good (b0 b1 b2 b3 b4 b5 o0 o1 o2 o3 o4 o5 n c0 c1 c2 c3 c4 c5 : Nat) (z0 z1 z2 z3 z4 z5 : List Int) (x6 x7 x8 x9 x10 : Int) (w : World)
    (q0 : n ≤ 4096) (q1 : 1 ≤ n) (h7 : 0 ≤ x7) (h7' : x7 < n) (hup : Hid (∀ j, j < n → -1 ≤ z5[j]?.getD 0 ∧ z5[j]?.getD 0 < j))
    (s0 : Src .u64 w b0 o0 n z0) (s1 : Src .i64 w b1 o1 n z1) (s2 : Src .u64 w b2 o2 n z2) (s3 : Src .i64 w b3 o3 n z3) (s4 : Src .u64 w b4 o4 n z4) (s5 : Src .i64 w b5 o5 n z5) :
    Calls Try.prog 6 #[.slice (some ⟨b0, o0, none⟩) n c0, .slice (some ⟨b1, o1, none⟩) n c1, .slice (some ⟨b2, o2, none⟩) n c2, .slice (some ⟨b3, o3, none⟩) n c3, .slice (some ⟨b4, o4, none⟩) n c4, .slice (some ⟨b5, o5, none⟩) n c5, .int .u64 x6, .int .i64 x7, .int .u64 x8, .int .i64 x9, .int .u64 x10] w
      fun e w' => e = .returned (.bool true) ∧ Below w.heap.size w w' := by
  go_enter Try.func6, Try.ntmps6
  go_wp2_with fail
  refine (bytes14 _ _ _ _ _ _ _ _ _ _ _ _ _ _ _ _ _ _ _ _ _ _ _ _).mono ?_
  rintro e w' ⟨⟨r, rfl⟩, rfl⟩
  cases r
  · go_wp2
    go_ret
    exact ⟨rfl, Below.refl _ _⟩
  · go_wp2_with fail
    refine (wf_any _ _ _ _ _ _ _ _ _ _ _ _ _ _ _ b5 o5 n c5 z5 x7 w' (by omega) s5.2).mono ?_
    rintro e w1 ⟨rfl | ⟨rfl, _⟩, rfl⟩
    · go_wp2
      go_ret
      exact ⟨rfl, Below.refl _ _⟩
    · go_wp2_with fail
      refine (cloneU64_src c0 (by omega) s0).mono ?_
      rintro e wa ⟨rfl, ⟨t0, f0⟩, za⟩
      have v1 := s1.later f0
      go_wp2_with fail
      refine (cloneInts_src c1 (by omega) v1).mono ?_
      rintro e wb ⟨rfl, ⟨t1, f1⟩, zb⟩
      have g1 := f0.trans (f1.mono (by omega))
      have v2 := s2.later g1
      go_wp2_with fail
      refine (cloneU64_src c2 (by omega) v2).mono ?_
      rintro e wc ⟨rfl, ⟨t2, f2⟩, zc⟩
      have g2 := g1.trans (f2.mono (by omega))
      have v3 := s3.later g2
      go_wp2_with fail
      refine (cloneInts_src c3 (by omega) v3).mono ?_
      rintro e wd ⟨rfl, ⟨t3, f3⟩, zd⟩
      have g3 := g2.trans (f3.mono (by omega))
      have v4 := s4.later g3
      go_wp2_with fail
      refine (cloneU64_src c4 (by omega) v4).mono ?_
      rintro e we ⟨rfl, ⟨t4, f4⟩, ze⟩
      have g4 := g3.trans (f4.mono (by omega))
      have v5 := s5.later g4
      go_wp2_with fail
      refine (cloneInts_src c5 (by omega) v5).mono ?_
      rintro e wf ⟨rfl, ⟨t5, f5⟩, zf⟩
      have g5 := g4.trans (f5.mono (by omega))
      have m4 := t4.later f5
      have m3 := (t3.later f4).later (f5.mono (by omega))
      have m2 := ((t2.later f3).later (f4.mono (by omega))).later (f5.mono (by omega))
      have m1 := (((t1.later f2).later (f3.mono (by omega))).later (f4.mono (by omega))).later (f5.mono (by omega))
      have m0 := ((((t0.later f1).later (f2.mono (by omega))).later (f3.mono (by omega))).later (f4.mono (by omega))).later (f5.mono (by omega))
      clear t0 t1 t2 t3 t4 f0 f1 f2 f3 f4 f5 v1 v2 v3 v4 v5 s0 s1 s2 s3 s4 s5 g1 g2 g3 g4
      have M1 : Src .i64 wf (w1.heap.size + 1) 0 n z1 := by rw [← za]; exact m1
      have M2 : Src .u64 wf (w1.heap.size + 1 + 1) 0 n z2 := by rw [← za, ← zb]; exact m2
      have M3 : Src .i64 wf (w1.heap.size + 1 + 1 + 1) 0 n z3 := by rw [← za, ← zb, ← zc]; exact m3
      have M4 : Src .u64 wf (w1.heap.size + 1 + 1 + 1 + 1) 0 n z4 := by rw [← za, ← zb, ← zc, ← zd]; exact m4
      have M5 : Src .i64 wf (w1.heap.size + 1 + 1 + 1 + 1 + 1) 0 n z5 := by rw [← za, ← zb, ← zc, ← zd, ← ze]; exact t5
      go_wp2_with fail
      refine (layout_src (by omega) q1 m0 M1 M2 M3 M4 M5).mono ?_
      rintro e wg ⟨rfl, ⟨g, cap, hL, hown⟩, hbel⟩
      have G := g5.trans (hbel.mono (by omega))
      have X := zzfixup_any wf.heap.size g n cap z0 z1 z2 z3 z4 z5 x6 x7 x8 x9 x10 wg hL hown h7 h7' hup.out
      have N2 := M2.later hbel
      have N5 := M5.later hbel
      have Y := model_any (w1.heap.size + 1 + 1) (w1.heap.size + 1 + 1 + 1 + 1 + 1) n z2 z5 x7 x8 x9 x10 wg (by omega) h7 h7' N2.cells N5.cells hup
      have HX := hide X
      have HY := hide Y
      clear X Y hL hown hbel m0 m1 m2 m3 m4 t5 M1 M2 M3 M4 M5 N2 N5 g5 hup za zb zc zd ze zf
      go_wp2_with fail
      refine (unhide HX).mono ?_
      rintro e wh ⟨rfl, hwh⟩
      subst hwh
      go_wp2_with fail
      refine (unhide HY).mono ?_
      rintro e wh ⟨rfl, hwh⟩
      subst hwh
      go_wp2
      go_ret
      exact ⟨by simp, G⟩
end Go.Proofs.Qxb6601712a

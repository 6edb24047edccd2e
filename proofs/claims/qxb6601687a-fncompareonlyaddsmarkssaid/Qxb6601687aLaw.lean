import Derived.Test.Qxb6601687aZz
namespace Go.Proofs.Qxb6601687a
open Go.ChangeShapes Go.WideShapes Go.ChangeAt Go.RowKit

namespace My
theorem pre_same {P Q : Lay} (ha : P.za = Q.za) (hb : P.zb = Q.zb) (a1 b1 : Nat) : ∀ g a0 b0, pre P a1 b1 g a0 b0 = pre Q a1 b1 g a0 b0 := by
  intro g
  induction g with
  | zero => intro a0 b0; rfl
  | succ g ih => intro a0 b0; simp only [pre, ha, hb, ih]
theorem suf_same {P Q : Lay} (ha : P.za = Q.za) (hb : P.zb = Q.zb) (a0 b0 : Nat) : ∀ g a1 b1, suf P a0 b0 g a1 b1 = suf Q a0 b0 g a1 b1 := by
  intro g
  induction g with
  | zero => intro a0 b0; rfl
  | succ g ih => intro a0 b0; simp only [suf, ha, hb, ih]
theorem eqf_same {P Q : Lay} (ha : P.za = Q.za) (hb : P.zb = Q.zb) (a0 b0 : Int) : eqf P a0 b0 = eqf Q a0 b0 := by
  funext x y
  simp only [eqf, ha, hb]
theorem core_same {P Q : Lay} (ha : P.za = Q.za) (hb : P.zb = Q.zb) (rec : Nat → Nat → Nat → Nat → Option Marks) (a0 a1 b0 b1 : Nat) : core P rec a0 a1 b0 b1 = core Q rec a0 a1 b0 b1 := by
  unfold core
  rw [eqf_same ha hb]
theorem cmp_same {P Q : Lay} (ha : P.za = Q.za) (hb : P.zb = Q.zb) : ∀ g, cmp P g = cmp Q g := by
  intro g
  induction g with
  | zero => rfl
  | succ g ih =>
    funext a0 a1 b0 b1
    have hl : ∀ a0 a1 b0 b1, lo P a0 a1 b0 b1 = lo Q a0 a1 b0 b1 := fun _ _ _ _ => pre_same ha hb _ _ _ _ _
    have hh : ∀ a0 a1 b0 b1, hi P a0 a1 b0 b1 = hi Q a0 a1 b0 b1 := fun _ _ _ _ => suf_same ha hb _ _ _ _ _
    rw [cmp, cmp, hl, hh, core_same ha hb, ih]
end My

theorem Pre.moved {w : World} {la lb ab bb db ib : Nat} {aa aB ad ai : Option Addr} {za zb : Nat → Int} {D I : Nat → Bool} (h : Pre w la lb ab bb db ib aa aB ad ai za zb D I) :
    Pre w la lb ab bb (if 1 ≤ la then db else w.heap.size) (if 1 ≤ lb then ib else w.heap.size) aa aB ad ai za zb D I := by
  obtain ⟨p1, p2, p3⟩ := h.apart
  obtain ⟨l1, l2, l3, l4⟩ := h.low
  refine ⟨h.a, h.b, fun hl => by rw [if_pos hl]; exact h.d hl, fun hl => by rw [if_pos hl]; exact h.i hl, ⟨fun hl => by rw [if_pos hl]; exact p1 hl, fun hl => by rw [if_pos hl]; exact p2 hl, fun hl hm => by rw [if_pos hl, if_pos hm]; exact p3 hl hm⟩, ⟨l1, l2, ?_, ?_⟩, h.la, h.lb⟩
  · split <;> omega
  · split <;> omega

/-- Blocks below B other than the marks keep; memory grows. -/
structure Still (la lb B x y : Nat) (w w' : World) : Prop where
  os : w'.os = w.os
  tape : w'.tape = w.tape
  output : w'.output = w.output
  size : w.heap.size ≤ w'.heap.size
  block : ∀ k, k < B → (1 ≤ la → k ≠ x) → (1 ≤ lb → k ≠ y) → w'.heap[k]? = w.heap[k]?

theorem zz_all (w : World) (la lb ab bb db ib : Nat) (aa aB ad ai : Option Addr) (za zb : Nat → Int) (D I : Nat → Bool) (a0 a1 b0 b1 : Nat) (M : My.Marks) (L : Lay)
    (h : Pre w la lb ab bb db ib aa aB ad ai za zb D I) (h1 : a0 ≤ a1) (h2 : a1 ≤ la) (h3 : b0 ≤ b1) (h4 : b1 ≤ lb) (hLa : L.za = za) (hLb : L.zb = zb)
    (hM : Hid (My.cmp L 4096 a0 a1 b0 b1 = some M)) :
    Calls Try.prog 14 #[.slice aa la la, .slice aB lb lb, .slice ad la la, .slice ai lb lb, .int .i64 9223372036854775807, .int .i64 a0, .int .i64 a1, .int .i64 b0, .int .i64 b1] w
      fun e w' => (∃ st, e = .returned (.tuple #[.bool true, .int .i64 st])) ∧ RowA w' 4 db ad la (fun i => .bool (D i || M.1 i)) ∧ RowA w' 4 ib ai lb (fun i => .bool (I i || M.2 i)) ∧ Still la lb w.heap.size db ib w w' := by
  refine (zz_any w la lb ab bb _ _ aa aB ad ai za zb D I a0 a1 b0 b1 M h.moved h1 h2 h3 h4 ?_).mono ?_
  · show _ = _
    rw [My.cmp_same (P := ⟨w.heap.size, 0, 0, 0, ab, bb, la, lb, za, zb⟩) (Q := L) hLa.symm hLb.symm]
    exact hM.out
  · rintro e w' ⟨he, r1, r2, hB⟩
    refine ⟨he, fun hl => by have := r1 hl; rwa [if_pos hl] at this, fun hl => by have := r2 hl; rwa [if_pos hl] at this, hB.os, hB.tape, hB.output, hB.size, fun k hk hx hy => hB.block k hk ?_ ?_⟩
    · split
      · rename_i hl; exact hx hl
      · omega
    · split
      · rename_i hl; exact hy hl
      · omega

theorem RowA.still {w w' : World} {la lb B x y : Nat} {t : TypeId} {b : Nat} {a : Option Addr} {n : Nat} {f : Nat → Value} (h : RowA w t b a n f) (hs : Still la lb B x y w w')
    (hB : 1 ≤ n → b < B) (hx : 1 ≤ n → 1 ≤ la → b ≠ x) (hy : 1 ≤ n → 1 ≤ lb → b ≠ y) : RowA w' t b a n f :=
  h.of (fun hn => hs.block b (hB hn) (hx hn) (hy hn))
theorem Still.below {w w' : World} {la lb B x y N : Nat} (h : Still la lb B x y w w') (h1 : N ≤ B) (h2 : N ≤ x) (h3 : N ≤ y) : Below N w w' :=
  ⟨h.os, h.tape, h.output, h.size, fun k hk => h.block k (by omega) (fun _ => by omega) (fun _ => by omega)⟩

/-- The end of the law: the marks, those before and the fresh ones. -/
structure Fin3 (w : World) (t : TypeId) (n x y z : Nat) (ax ay az : Option Addr) (D M : Nat → Bool) : Prop where
  d : RowA w t x ax n (fun i => .bool (D i || M i))
  e : RowA w t y ay n (fun i => .bool (D i))
  f : RowA w t z az n (fun i => .bool (false || M i))
theorem Fin3.of {w w' : World} {t : TypeId} {n x y z : Nat} {ax ay az : Option Addr} {D M : Nat → Bool} (h : Fin3 w t n x y z ax ay az D M) (hw : w'.heap = w.heap) : Fin3 w' t n x y z ax ay az D M :=
  ⟨h.d.of (fun _ => by rw [hw]), h.e.of (fun _ => by rw [hw]), h.f.of (fun _ => by rw [hw])⟩
theorem Fin3.cells {w : World} {t : TypeId} {n x y z : Nat} {ax ay az : Option Addr} {D M : Nat → Bool} (h : Fin3 w t n x y z ax ay az D M) {i : Nat} (hi : i < n) :
    ax = some ⟨x, 0, none⟩ ∧ ay = some ⟨y, 0, none⟩ ∧ az = some ⟨z, 0, none⟩ ∧ w.cell? ⟨x, i, none⟩ = some (.bool (D i || M i)) ∧ w.cell? ⟨y, i, none⟩ = some (.bool (D i)) ∧ w.cell? ⟨z, i, none⟩ = some (.bool (false || M i)) :=
  ⟨(h.d (by omega)).1, (h.e (by omega)).1, (h.f (by omega)).1, (h.d (by omega)).2.cell hi, (h.e (by omega)).2.cell hi, (h.f (by omega)).2.cell hi⟩
theorem Below.drewN' {N : Nat} {a w : World} (h : Below N a w) (q : Nat) : Below N a (w.drewN q) := ⟨h.os, h.tape, h.output, h.size, h.block⟩

set_option maxRecDepth 100000 in
set_option maxHeartbeats 4000000 in
theorem law_any (a0 a1 a2 a3 : Option Addr) (l0 l1 l2 l3 c0 c1 c2 c3 : Nat) (za zb : Nat → Int) (D I : Nat → Bool) (x y z u : Int) (w : World)
    (s0 : SrcA w a0 l0 (fun i => .int .i32 (za i))) (s1 : SrcA w a1 l1 (fun i => .int .i32 (zb i))) (s2 : SrcA w a2 l2 (fun i => .bool (D i))) (s3 : SrcA w a3 l3 (fun i => .bool (I i))) :
    Calls Try.prog 5 #[.slice a0 l0 c0, .slice a1 l1 c1, .slice a2 l2 c2, .slice a3 l3 c3, .int .i64 x, .int .i64 y, .int .i64 z, .int .i64 u] w fun e w' => e = .returned (.bool true) ∧ Below w.heap.size w w' := by
  go_enter Try.func5, Try.ntmps5
  go_wp2_with fail
  refine (bytes_any _ _ _ _ _ _ _ _ _ _ _ _ _ _ _ _ _).mono ?_
  rintro e w' ⟨⟨r, rfl⟩, rfl⟩
  cases r
  · go_wp2
    go_ret
    exact ⟨rfl, Below.refl _ _⟩
  by_cases k0 : (l0 : Int) > 1024
  · go_wp2; go_ret; exact ⟨rfl, Below.refl _ _⟩
  by_cases k1 : (l1 : Int) > 1024
  · go_wp2; go_ret; exact ⟨rfl, Below.refl _ _⟩
  by_cases k2 : (l2 : Int) > 1024
  · go_wp2; go_ret; exact ⟨rfl, Below.refl _ _⟩
  by_cases k3 : (l3 : Int) > 1024
  · go_wp2; go_ret; exact ⟨rfl, Below.refl _ _⟩
  by_cases k4 : (l2 : Int) = l0
  rotate_left
  · have k4' : ((l2 : Int) != l0) = true := by simpa using k4
    go_wp2; go_ret; exact ⟨rfl, Below.refl _ _⟩
  by_cases k5 : (l3 : Int) = l1
  rotate_left
  · have k4' : ((l2 : Int) != l0) = false := by simpa using k4
    have k5' : ((l3 : Int) != l1) = true := by simpa using k5
    go_wp2; go_ret; exact ⟨rfl, Below.refl _ _⟩
  obtain rfl : l0 = l2 := by omega
  obtain rfl : l1 = l3 := by omega
  clear k4 k5
  go_wp2_with fail
  refine (fit_any _ _ _ _ _ _ _ _ _ _ _).mono ?_
  rintro e w' ⟨rfl | ⟨rfl, q1, q2, q3, q4, q5, q6⟩, rfl⟩
  · go_wp2; go_ret; exact ⟨rfl, Below.refl _ _⟩
  obtain ⟨X, rfl⟩ := Int.eq_ofNat_of_zero_le q1
  obtain ⟨Y, rfl⟩ := Int.eq_ofNat_of_zero_le (Int.le_trans q1 q2)
  obtain ⟨Z, rfl⟩ := Int.eq_ofNat_of_zero_le q4
  obtain ⟨U, rfl⟩ := Int.eq_ofNat_of_zero_le (Int.le_trans q4 q5)
  obtain ⟨M, hM⟩ := My.cmp_some ⟨0, 0, 0, 0, 0, 0, l0, l1, za, zb⟩ 4096 X Y Z U (by omega) (by omega) (by omega)
  have hM : Hid (My.cmp ⟨0, 0, 0, 0, 0, 0, l0, l1, za, zb⟩ 4096 X Y Z U = some M) := hM
  go_wp2_with fail
  refine (cloneI_any a0 l0 c0 za w' (by omega) s0).mono ?_
  rintro e w1 ⟨aa, rfl, r1, b1⟩
  go_wp2_with fail
  refine (cloneI_any a1 l1 c1 zb w1 (by omega) (s1.later b1)).mono ?_
  rintro e w2 ⟨aB, rfl, r2, b2⟩
  go_wp2_with fail
  refine (cloneB_any a2 l0 c2 D w2 (by omega) ((s2.later b1).later b2)).mono ?_
  rintro e w3 ⟨ad, rfl, r3, b3⟩
  go_wp2_with fail
  refine (cloneB_any a3 l1 c3 I w3 (by omega) (((s3.later b1).later b2).later b3)).mono ?_
  rintro e w4 ⟨ai, rfl, r4, b4⟩
  go_wp2_with fail
  refine (cloneB_any ad l0 l0 D w4 (by omega) (r3.later b4).src).mono ?_
  rintro e w5 ⟨ae, rfl, r5, b5⟩
  go_wp2_with fail
  refine (cloneB_any ai l1 l1 I w5 (by omega) (r4.later b5).src).mono ?_
  rintro e w6 ⟨af, rfl, r6, b6⟩
  have z1 := b1.size
  have z2 := b2.size
  have z3 := b3.size
  have z4 := b4.size
  have z5 := b5.size
  have z6 := b6.size
  have y1 := fun h => r1.lt h
  have y2 := fun h => r2.lt h
  have y3 := fun h => r3.lt h
  have y4 := fun h => r4.lt h
  have y5 := fun h => r5.lt h
  have y6 := fun h => r6.lt h
  have r1' := ((((r1.later b2).later b3).later b4).later b5).later b6
  have r2' := (((r2.later b3).later b4).later b5).later b6
  have r3' := ((r3.later b4).later b5).later b6
  have r4' := (r4.later b5).later b6
  have r5' := r5.later b6
  have p1 : Pre w6 l0 l1 w'.heap.size w1.heap.size w2.heap.size w3.heap.size aa aB ad ai za zb D I :=
    ⟨r1', r2', r3', r4', ⟨fun h => by have := y1 h; omega, fun h => by have := y2 h; omega, fun h h' => by have := y1 h; have := y2 h'; have := y3 h; omega⟩, by omega, by omega, by omega⟩
  have bel6 : Below w'.heap.size w' w6 := ((((b1.trans (b2.mono z1)).trans (b3.mono (by omega))).trans (b4.mono (by omega))).trans (b5.mono (by omega))).trans (b6.mono (by omega))
  go_wp2_with fail
  refine (zz_all w6 l0 l1 _ _ _ _ aa aB ad ai za zb D I X Y Z U M _ p1 (by omega) (by omega) (by omega) (by omega) rfl rfl hM).mono ?_
  rintro e w7 ⟨⟨st1, rfl⟩, R1, R2, S7⟩
  have z7 := S7.size
  have bel7 : Below w'.heap.size w' w7 := bel6.trans (S7.below (by omega) (by omega) (by omega))
  have t1 := r1'.still S7 (fun h => by have := y1 h; omega) (fun h _ => by have := y1 h; omega) (fun h _ => by have := y1 h; omega)
  have t2 := r2'.still S7 (fun h => by have := y2 h; omega) (fun h _ => by have := y2 h; omega) (fun h _ => by have := y2 h; omega)
  have t5 := r5'.still S7 (fun h => by have := y5 h; omega) (fun h h' => by have := y3 h'; omega) (fun h h' => by have := y4 h'; omega)
  have t6 := r6.still S7 (fun h => by have := y6 h; omega) (fun h h' => by have := y3 h'; omega) (fun h h' => by have := y4 h'; omega)
  clear r1 r2 r3 r4 r5 r6 r1' r2' r3' r4' r5' p1 b1 b2 b3 b4 b5 b6 bel6 s0 s1 s2 s3
  have hmk := run_make_row' (P := Try.prog) 25 4 (.bool false) 1 Try.underlying25 Try.info4 rfl .i64 .i64 l0 (by omega) (by omega)
  have hmk' := run_make_row' (P := Try.prog) 25 4 (.bool false) 1 Try.underlying25 Try.info4 rfl .i64 .i64 l1 (by omega) (by omega)
  go_wp2_with fail
  have n1 := (World.rowIs_made w7 (.bool false) l0 4).alloc (.cells (madeCells #[.bool false] l1) 4)
  have n2 := World.rowIs_made (w7.alloc (.cells (madeCells #[.bool false] l0) 4)) (.bool false) l1 4
  have hs8 : (w7.alloc (.cells (madeCells #[.bool false] l0) 4)).heap.size = w7.heap.size + 1 := by simp
  have bel9 : Below w7.heap.size w7 ((w7.alloc (.cells (madeCells #[.bool false] l0) 4)).alloc (.cells (madeCells #[.bool false] l1) 4)) := ((Below.refl _ _).alloc (Nat.le_refl _) _).alloc (by omega) _
  have hs9 : ((w7.alloc (.cells (madeCells #[.bool false] l0) 4)).alloc (.cells (madeCells #[.bool false] l1) 4)).heap.size = w7.heap.size + 1 + 1 := by simp
  rw [hs8] at n2
  clear hmk hmk'
  generalize (w7.alloc (.cells (madeCells #[.bool false] l0) 4)).alloc (.cells (madeCells #[.bool false] l1) 4) = w9 at n1 n2 bel9 hs9 ⊢
  have p2 : Pre w9 l0 l1 w'.heap.size w1.heap.size w7.heap.size (w7.heap.size + 1) aa aB (some ⟨w7.heap.size, 0, none⟩) (some ⟨w7.heap.size + 1, 0, none⟩) za zb (fun _ => false) (fun _ => false) :=
    ⟨t1.later bel9, t2.later bel9, fun _ => ⟨rfl, n1⟩, fun _ => ⟨rfl, n2⟩, ⟨fun h => by have := y1 h; omega, fun h => by have := y2 h; omega, fun h h' => by have := y1 h; have := y2 h'; omega⟩, by omega, by omega, by omega⟩
  refine (zz_all w9 l0 l1 _ _ _ _ aa aB _ _ za zb (fun _ => false) (fun _ => false) X Y Z U M _ p2 (by omega) (by omega) (by omega) (by omega) rfl rfl hM).mono ?_
  rintro e w10 ⟨⟨st2, rfl⟩, R3, R4, S10⟩
  have bel10 : Below w'.heap.size w' w10 := (bel7.trans (bel9.mono (by omega))).trans (S10.below (by omega) (by omega) (by omega))
  have u3 := R1.lt
  have u4 := R2.lt
  have F1 : Fin3 w10 4 l0 w2.heap.size w4.heap.size w7.heap.size ad ae (some ⟨w7.heap.size, 0, none⟩) D M.1 :=
    ⟨(R1.later bel9).still S10 (fun h => by have := y3 h; omega) (fun h _ => by have := y3 h; omega) (fun h _ => by have := y3 h; omega),
     (t5.later bel9).still S10 (fun h => by have := y5 h; omega) (fun h _ => by have := y5 h; omega) (fun h _ => by have := y5 h; omega), R3⟩
  have F2 : Fin3 w10 4 l1 w3.heap.size w5.heap.size (w7.heap.size + 1) ai af (some ⟨w7.heap.size + 1, 0, none⟩) I M.2 :=
    ⟨(R2.later bel9).still S10 (fun h => by have := y4 h; omega) (fun h _ => by have := y4 h; omega) (fun h _ => by have := y4 h; omega),
     (t6.later bel9).still S10 (fun h => by have := y6 h; omega) (fun h _ => by have := y6 h; omega) (fun h _ => by have := y6 h; omega), R4⟩
  clear p2 R1 R2 R3 R4 S7 S10 t1 t2 t5 t6 bel7 bel9 n1 n2 hs8 hs9 y1 y2 y3 y4 y5 y6 u3 u4 hM
  generalize w2.heap.size = e2 at F1 F2
  generalize w3.heap.size = e3 at F1 F2
  generalize w4.heap.size = e4 at F1 F2
  generalize w5.heap.size = e5 at F1 F2
  go_wp2_with fail
  go_loopg [25] l0 (fun g X wr => ∃ i : Nat, i ≤ l0 ∧ X = .int .i64 i ∧ g = l0 - i ∧ Fin3 wr 4 l0 e2 e4 w7.heap.size ad ae (some ⟨w7.heap.size, 0, none⟩) D M.1 ∧ Fin3 wr 4 l1 e3 e5 (w7.heap.size + 1) ai af (some ⟨w7.heap.size + 1, 0, none⟩) I M.2 ∧ Below w'.heap.size w' wr)
  case atStart => exact ⟨0, Nat.zero_le _, rfl, rfl, F1, F2, bel10⟩
  case round =>
    obtain ⟨i, hi, rfl, hg, G1, G2, hb⟩ := hrel
    clear F1 F2 bel10
    by_cases hlt : (i : Int) < l0
    · have hlt' : i < l0 := by omega
      obtain ⟨rfl, rfl, -, c1, c2, c3⟩ := G1.cells hlt'
      cases hD : D i with
      | true =>
        rw [hD, Bool.true_or] at c1
        rw [hD] at c2
        clear hD
        go_upto_region 25 with fail
        go_quiet (fail)
        have G1' := G1.of (w' := wr.drewN nq) rfl
        have G2' := G2.of (w' := wr.drewN nq) rfl
        have hb' := Below.drewN' hb nq
        clear G1 G2 hb c1 c2 c3
        go_wp2
        go_roundg (l0 - (i + 1))
        case measure => omega
        case rel => exact ⟨i + 1, by omega, by go_num, rfl, G1', G2', hb'⟩
      | false =>
        rw [hD, Bool.false_or] at c1
        rw [hD] at c2
        rw [Bool.false_or] at c3
        clear hD
        generalize M.1 i = m at c1 c3
        cases m with
        | true =>
          go_upto_region 25 with fail
          go_quiet (fail)
          have G1' := G1.of (w' := wr.drewN nq) rfl
          have G2' := G2.of (w' := wr.drewN nq) rfl
          have hb' := Below.drewN' hb nq
          clear G1 G2 hb c1 c2 c3
          go_wp2
          go_roundg (l0 - (i + 1))
          case measure => omega
          case rel => exact ⟨i + 1, by omega, by go_num, rfl, G1', G2', hb'⟩
        | false =>
          go_upto_region 25 with fail
          go_quiet (fail)
          have G1' := G1.of (w' := wr.drewN nq) rfl
          have G2' := G2.of (w' := wr.drewN nq) rfl
          have hb' := Below.drewN' hb nq
          clear G1 G2 hb c1 c2 c3
          go_wp2
          go_roundg (l0 - (i + 1))
          case measure => omega
          case rel => exact ⟨i + 1, by omega, by go_num, rfl, G1', G2', hb'⟩
    · clear G1
      go_wp2_with fail
      go_loopg [26] l1 (fun g X wr => ∃ j : Nat, j ≤ l1 ∧ X = .int .i64 j ∧ g = l1 - j ∧ Fin3 wr 4 l1 e3 e5 (w7.heap.size + 1) ai af (some ⟨w7.heap.size + 1, 0, none⟩) I M.2 ∧ Below w'.heap.size w' wr)
      case atStart => exact ⟨0, Nat.zero_le _, rfl, rfl, G2, hb⟩
      case round =>
        obtain ⟨j, hj, rfl, hg, G2, hb⟩ := hrel
        by_cases hlt : (j : Int) < l1
        · have hlt' : j < l1 := by omega
          obtain ⟨rfl, rfl, -, c1, c2, c3⟩ := G2.cells hlt'
          cases hD : I j with
          | true =>
            rw [hD, Bool.true_or] at c1
            rw [hD] at c2
            clear hD
            go_upto_region 30 with fail
            go_quiet (fail)
            have G2' := G2.of (w' := wr.drewN nq) rfl
            have hb' := Below.drewN' hb nq
            clear G2 hb c1 c2 c3
            go_wp2
            go_roundg (l1 - (j + 1))
            case measure => omega
            case rel => exact ⟨j + 1, by omega, by go_num, rfl, G2', hb'⟩
          | false =>
            rw [hD, Bool.false_or] at c1
            rw [hD] at c2
            rw [Bool.false_or] at c3
            clear hD
            generalize M.2 j = m at c1 c3
            cases m with
            | true =>
              go_upto_region 30 with fail
              go_quiet (fail)
              have G2' := G2.of (w' := wr.drewN nq) rfl
              have hb' := Below.drewN' hb nq
              clear G2 hb c1 c2 c3
              go_wp2
              go_roundg (l1 - (j + 1))
              case measure => omega
              case rel => exact ⟨j + 1, by omega, by go_num, rfl, G2', hb'⟩
            | false =>
              go_upto_region 30 with fail
              go_quiet (fail)
              have G2' := G2.of (w' := wr.drewN nq) rfl
              have hb' := Below.drewN' hb nq
              clear G2 hb c1 c2 c3
              go_wp2
              go_roundg (l1 - (j + 1))
              case measure => omega
              case rel => exact ⟨j + 1, by omega, by go_num, rfl, G2', hb'⟩
        · go_wp2
          go_ret
          exact ⟨rfl, hb⟩
end Go.Proofs.Qxb6601687a

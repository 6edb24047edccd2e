import Derived.Test.Qxb6601687aCMem
namespace Go.Proofs.Qxb6601687a
open Go.ChangeShapes Go.WideShapes Go.ChangeAt Go.RowKit

theorem Try.info3 : (Try.prog.info? 3).map (fun i => (i.zero, i.size, i.bytes)) = some (some (.int .i64 0), 1, 8) := by kernel_rfl

section
variable {P : Lay} {V : Four} {db ib N : Nat} {D I : Nat → Bool} {st : Int} {w : World}

theorem CS.g0 {S : Option (Nat × Nat × Nat)} (h : CS P V db ib N D I S st w) : w.cell? ⟨P.L, 5, none⟩ = some (bwOf S) := by simp [World.cell?, h.obj]
/-- The search rows are made. -/
theorem CS.make (h : CS P V db ib N D I none st w) {w' : World} {t : Nat × Nat × Nat}
    (hobj : w'.heap[P.L]? = some (.cells #[V.va, V.vb, V.vd, V.vi, fwOf (some t), bwOf (some t), .int .i64 st] 42 (0, 0)))
    (hk : ∀ b, b < N → b ≠ P.L → w'.heap[b]? = w.heap[b]?) (hs : N ≤ w'.heap.size)
    (r1 : w'.rowIs t.1 3 t.2.2 (fun _ => .int .i64 0)) (r2 : w'.rowIs t.2.1 3 t.2.2 (fun _ => .int .i64 0)) (hne : t.1 ≠ t.2.1) (n1 : N ≤ t.1) (n2 : N ≤ t.2.1) :
    CS P V db ib N D I (some t) st w' := by
  obtain ⟨l1, l2, l3, l4, l5, l6⟩ := h.low
  have row : ∀ {b ty n : Nat} {f : Nat → Value}, b < N → b ≠ P.L → w.rowIs b ty n f → w'.rowIs b ty n f := fun h1 h2 hr => by
    unfold World.rowIs at hr ⊢
    rw [hk _ h1 h2]; exact hr
  refine ⟨hobj, fun hl => ?_, fun hl => ?_, h.hab, fun u hu => ?_, ⟨l1, l2, l3, l4, l5, hs⟩, h.la, h.lb⟩
  · obtain ⟨p1, p2, p3, p4, p5, p6, p7⟩ := h.ha hl
    exact ⟨p1, p2, row l2 p5 p3, row l4 p6 p4, p5, p6, p7⟩
  · obtain ⟨p1, p2, p3, p4, p5, p6, p7⟩ := h.hb hl
    exact ⟨p1, p2, row l3 p5 p3, row l5 p6 p4, p5, p6, p7⟩
  · cases hu
    exact ⟨⟨fun _ => 0, r1⟩, ⟨fun _ => 0, r2⟩, hne, n1, n2⟩

theorem CS.made (h : CS P V db ib N D I none st w) (n p q : Nat) (hpq : (p = w.heap.size ∧ q = w.heap.size + 1) ∨ (p = w.heap.size + 1 ∧ q = w.heap.size)) :
    CS P V db ib N D I (some (p, q, n)) st ((((w.setCell ⟨P.L, 4, none⟩ (.slice (some ⟨p, 0, none⟩) n n)).setCell ⟨P.L, 5, none⟩ (.slice (some ⟨q, 0, none⟩) n n)).alloc (.cells (madeCells #[.int .i64 0] n) 3)).alloc (.cells (madeCells #[.int .i64 0] n) 3)) := by
  obtain ⟨l1, l2, l3, l4, l5, l6⟩ := h.low
  have ho := heap_set (o := 5) (heap_set (o := 4) h.obj (.slice (some ⟨p, 0, none⟩) n n)) (.slice (some ⟨q, 0, none⟩) n n)
  have hk : ∀ b, b ≠ P.L → ((w.setCell ⟨P.L, 4, none⟩ (.slice (some ⟨p, 0, none⟩) n n)).setCell ⟨P.L, 5, none⟩ (.slice (some ⟨q, 0, none⟩) n n)).heap[b]? = w.heap[b]? := fun b hL => by
    rw [Below.heap_setCell _ _ _ _ hL, Below.heap_setCell _ _ _ _ hL]
  have hs : ((w.setCell ⟨P.L, 4, none⟩ (.slice (some ⟨p, 0, none⟩) n n)).setCell ⟨P.L, 5, none⟩ (.slice (some ⟨q, 0, none⟩) n n)).heap.size = w.heap.size := by simp [World.setCell]
  generalize (w.setCell ⟨P.L, 4, none⟩ (.slice (some ⟨p, 0, none⟩) n n)).setCell ⟨P.L, 5, none⟩ (.slice (some ⟨q, 0, none⟩) n n) = w2 at ho hk hs ⊢
  have r1 := (World.rowIs_made w2 (.int .i64 0) n 3).alloc (.cells (madeCells #[.int .i64 0] n) 3)
  have r2 := World.rowIs_made (w2.alloc (.cells (madeCells #[.int .i64 0] n) 3)) (.int .i64 0) n 3
  rw [show (w2.alloc (.cells (madeCells #[.int .i64 0] n) 3)).heap.size = w.heap.size + 1 by simp [hs]] at r2
  rw [hs] at r1
  refine h.make (t := (p, q, n)) ?_ (fun b hb hL => ?_) (by simp; omega) ?_ ?_ ?_ ?_ ?_
  · rw [Below.heap_alloc _ _ _ (by simp; omega), Below.heap_alloc _ _ _ (by omega), ho]
    simp [fwOf, bwOf]
  · rw [Below.heap_alloc _ _ _ (by simp; omega), Below.heap_alloc _ _ _ (by omega), hk b hL]
  · rcases hpq with ⟨rfl, rfl⟩ | ⟨rfl, rfl⟩
    · exact r1
    · exact r2
  · rcases hpq with ⟨rfl, rfl⟩ | ⟨rfl, rfl⟩
    · exact r2
    · exact r1
  · simp only; omega
  · simp only; omega
  · simp only; omega
theorem CS.drew {S : Option (Nat × Nat × Nat)} (h : CS P V db ib N D I S st w) : CS P V db ib N D I S st w.drew := ⟨h.obj, h.ha, h.hb, h.hab, h.rows, h.low, h.la, h.lb⟩
theorem Keep.drew {bs : List Nat} {a : World} (h : Keep N bs a w) : Keep N bs a w.drew := h.trans ⟨rfl, rfl, rfl, Nat.le_refl _, fun _ _ _ => rfl⟩
end

theorem core_split {P : Lay} {rec : Nat → Nat → Nat → Nat → Option My.Marks} {x u y v p0 q0 p1 q1 : Nat} {M : My.Marks} (he : ¬ (x = u ∨ y = v))
    (hc : My.core P rec x u y v = some M) (er : My.snakeOf (eqf P x y) ((u : Int) - x) ((v : Int) - y) = some ((p0 : Int), (q0 : Int), (p1 : Int), (q1 : Int))) :
    ∃ p q, rec x (x + p0) y (y + q0) = some p ∧ rec (x + p1) u (y + q1) v = some q ∧ M = My.orM p q := by
  rw [My.core, if_neg he, er] at hc
  simp only [Int.toNat_natCast] at hc
  cases h1 : rec x (x + p0) y (y + q0) with
  | none => rw [h1] at hc; simp at hc
  | some p =>
    cases h2 : rec (x + p1) u (y + q1) v with
    | none => rw [h1, h2] at hc; simp at hc
    | some q =>
      rw [h1, h2] at hc
      exact ⟨p, q, rfl, rfl, (Option.some.inj hc).symm⟩

def CmpPost (P : Lay) (V : Four) (db ib N : Nat) (D I : Nat → Bool) (S : Option (Nat × Nat × Nat)) (st : Int) (M : My.Marks) (size : Nat) (w : World) (e : Ending) (w' : World) : Prop :=
  e = .returned (.bool true) ∧ ∃ S' st', CS P V db ib N (fun i => D i || M.1 i) (fun j => I j || M.2 j) S' st' w' ∧ (∀ t, S = some t → S' = some t) ∧ st - ((2 * size - 1 : Nat) : Int) * 1099511627776 ≤ st' ∧ st' ≤ st ∧ Keep N [P.L, db, ib] w w'

/-- What compare does, with fuel g. -/
def CmpAt (P : Lay) (V : Four) (db ib N g : Nat) : Prop :=
  ∀ (D I : Nat → Bool) (S : Option (Nat × Nat × Nat)) (st : Int) (w : World) (a0 a1 b0 b1 : Nat) (M : My.Marks),
    a0 ≤ a1 → a1 ≤ P.la → b0 ≤ b1 → b1 ≤ P.lb → CS P V db ib N D I S st w → (∀ t, S = some t → (a1 - a0) + (b1 - b0) + 3 ≤ t.2.2 ∧ t.2.2 ≤ 4096) →
    ((2 * (a1 - a0 + (b1 - b0)) - 1 : Nat) : Int) * 1099511627776 ≤ st → st ≤ 9223372036854775807 → Hid (My.cmp P g a0 a1 b0 b1 = some M) →
    Calls Try.prog 32 #[.pointer (some ⟨P.L, 0, none⟩), .int .i64 a0, .int .i64 a1, .int .i64 b0, .int .i64 b1] w (CmpPost P V db ib N D I S st M (a1 - a0 + (b1 - b0)) w)

set_option maxRecDepth 100000 in
set_option maxHeartbeats 4000000 in
theorem cmp_step (P : Lay) (V : Four) (db ib N g : Nat) (ih : Hid (CmpAt P V db ib N g)) : CmpAt P V db ib N (g + 1) := by
  intro D I S st w a0 a1 b0 b1 M h1 h2 h3 h4 hC hsz hst hst2 hM
  have hla := hC.la
  have hlb := hC.lb
  go_enter Try.func32, Try.ntmps32
  go_upto_block 0 with fail
  go_cut [1, 3] from 19 to 47 (fun X Y w' => ∃ (x y : Nat), CS P V db ib N D I S st w' ∧ Keep N [P.L, db, ib] w w' ∧ X = .int .i64 x ∧ Y = .int .i64 y ∧ Hid ((x, y) = My.lo P a0 a1 b0 b1))
  case first =>
    go_wp2_with fail
    go_loopg [1, 3] (a1 - a0) (fun g X Y wr => ∃ (x y : Nat), CS P V db ib N D I S st wr ∧ Keep N [P.L, db, ib] w wr ∧ X = .int .i64 x ∧ Y = .int .i64 y ∧ x ≤ a1 ∧ y ≤ b1 ∧ g = a1 - x ∧ Hid (My.pre P a1 b1 (a1 - x) x y = My.lo P a0 a1 b0 b1))
    case atStart => exact ⟨a0, b0, hC, Keep.refl _ _ _, rfl, rfl, h1, h3, rfl, rfl⟩
    case round =>
      obtain ⟨x, y, hC1, hK1, rfl, rfl, hx, hy, hg, hpre⟩ := hrel
      clear hC
      by_cases k1 : (x : Int) < a1
      · by_cases k2 : (y : Int) < b1
        · have c0 := hC1.a0 (by omega)
          have c1 := hC1.b0 (by omega)
          have c2 := hC1.acell (i := x) (by omega)
          have c3 := hC1.bcell (i := y) (by omega)
          have i1 : (x : Int) < (P.la : Int) := by omega
          have i2 : (y : Int) < (P.lb : Int) := by omega
          by_cases k3 : P.za x = P.zb y
          · have k3' : (P.za x == P.zb y) = true := by simpa using k3
            have hE : Hid (My.pre P a1 b1 (a1 - (x + 1)) (x + 1) (y + 1) = My.lo P a0 a1 b0 b1) := by
              show _ = _
              rw [← hpre.out, show a1 - x = (a1 - (x + 1)) + 1 by omega, My.pre, if_pos ⟨by omega, by omega, k3⟩]
            clear hpre k3
            go_upto_region 1 with fail
            go_quiet (fail)
            have hC2 := hC1.drewN nq
            have hK2 := hK1.trans (Keep.drewN _ _ _ nq)
            clear c0 c1 c2 c3 hC1 hK1 k3'
            go_wp2
            go_roundg (a1 - (x + 1))
            case measure => omega
            case rel => exact ⟨x + 1, y + 1, hC2, hK2, by go_num, by go_num, by omega, by omega, rfl, hE⟩
          · have k3' : (P.za x == P.zb y) = false := by simpa using k3
            have hE : Hid ((x, y) = My.lo P a0 a1 b0 b1) := by
              show _ = _
              rw [← hpre.out, show a1 - x = (a1 - (x + 1)) + 1 by omega, My.pre, if_neg (fun h => k3 h.2.2)]
            clear hpre k3
            go_upto_region 1 with fail
            go_quiet (fail)
            have hC2 := hC1.drewN nq
            have hK2 := hK1.trans (Keep.drewN _ _ _ nq)
            clear c0 c1 c2 c3 hC1 hK1 k3'
            go_wp2
            go_meet
            case rel => exact ⟨x, y, hC2, hK2, rfl, rfl, hE⟩
        · have k2' : decide ((y : Int) < b1) = false := decide_eq_false k2
          have hE : Hid ((x, y) = My.lo P a0 a1 b0 b1) := by
            show _ = _
            rw [← hpre.out, show a1 - x = (a1 - (x + 1)) + 1 by omega, My.pre, if_neg (fun h => k2 (by have := h.2.1; omega))]
          clear hpre
          go_upto_region 1 with fail
          go_quiet (fail)
          have hC2 := hC1.drewN nq
          have hK2 := hK1.trans (Keep.drewN _ _ _ nq)
          clear hC1 hK1
          go_wp2
          go_meet
          case rel => exact ⟨x, y, hC2, hK2, rfl, rfl, hE⟩
      · have k1' : decide ((x : Int) < a1) = false := decide_eq_false k1
        have hE : Hid ((x, y) = My.lo P a0 a1 b0 b1) := by
          show _ = _
          rw [← hpre.out, show a1 - x = 0 by omega, My.pre]
        clear hpre
        go_upto_region 1 with fail
        go_quiet (fail)
        have hC2 := hC1.drewN nq
        have hK2 := hK1.trans (Keep.drewN _ _ _ nq)
        clear hC1 hK1
        go_wp2
        go_meet
        case rel => exact ⟨x, y, hC2, hK2, rfl, rfl, hE⟩
  case rest =>
    obtain ⟨x, y, hC1, hK1, rfl, rfl, hlo⟩ := hcut
    obtain ⟨t, et, t1, t2, t3⟩ := My.pre_spec P a1 b1 (a1 - a0) a0 b0 (Nat.le_refl _) h1 h3
    have hx : x = a0 + t ∧ y = b0 + t := by
      have := hlo.out
      rw [My.lo, et] at this
      simpa using this
    have hx1 : a0 ≤ x := by omega
    have hx2 : x ≤ a1 := by omega
    have hy1 : b0 ≤ y := by omega
    have hy2 : y ≤ b1 := by omega
    have hne : Hid (¬ (x < a1 ∧ y < b1 ∧ P.za x = P.zb y)) := by
      show ¬ _
      rw [hx.1, hx.2]; exact t3
    clear t3 et hC hx t1 t2 t
    go_upto_block 2 with fail
    go_cut [2, 4] from 48 to 78 (fun X Y w' => ∃ (u v : Nat), CS P V db ib N D I S st w' ∧ Keep N [P.L, db, ib] w w' ∧ X = .int .i64 u ∧ Y = .int .i64 v ∧ Hid ((u, v) = My.hi P x a1 y b1))
    case first =>
      go_wp2_with fail
      go_loopg [2, 4] (a1 - x) (fun g X Y wr => ∃ (u v : Nat), CS P V db ib N D I S st wr ∧ Keep N [P.L, db, ib] w wr ∧ X = .int .i64 u ∧ Y = .int .i64 v ∧ x ≤ u ∧ u ≤ a1 ∧ y ≤ v ∧ v ≤ b1 ∧ g = u - x ∧ Hid (My.suf P x y (u - x) u v = My.hi P x a1 y b1))
      case atStart => exact ⟨a1, b1, hC1, hK1, rfl, rfl, hx2, Nat.le_refl _, hy2, Nat.le_refl _, rfl, rfl⟩
      case round =>
        obtain ⟨u, v, hC2, hK2, rfl, rfl, hu1, hu2, hv1, hv2, hg, hsuf⟩ := hrel
        clear hC1 hK1
        by_cases k1 : (x : Int) < u
        · by_cases k2 : (y : Int) < v
          · have c0 := hC2.a0 (by omega)
            have c1 := hC2.b0 (by omega)
            have c2 := hC2.acell (i := u - 1) (by omega)
            have c3 := hC2.bcell (i := v - 1) (by omega)
            have i1 : (u : Int) - 1 < (P.la : Int) := by omega
            have i2 : (v : Int) - 1 < (P.lb : Int) := by omega
            have i3 : (0 : Int) ≤ u - 1 := by omega
            have i4 : (0 : Int) ≤ v - 1 := by omega
            have i5 : IntKind.i64.wrap ((u : Int) - 1) = (u : Int) - 1 := by rw [IntKind.wrap_i64]; omega
            have i6 : IntKind.i64.wrap ((v : Int) - 1) = (v : Int) - 1 := by rw [IntKind.wrap_i64]; omega
            by_cases k3 : P.za (u - 1) = P.zb (v - 1)
            · have k3' : (P.za (u - 1) == P.zb (v - 1)) = true := by simpa using k3
              have hE : Hid (My.suf P x y (u - 1 - x) (u - 1) (v - 1) = My.hi P x a1 y b1) := by
                show _ = _
                rw [← hsuf.out, show u - x = (u - 1 - x) + 1 by omega, My.suf, if_pos ⟨by omega, by omega, k3⟩]
              clear hsuf k3
              go_upto_region 3 with fail
              go_quiet (fail)
              have hC3 := hC2.drewN nq
              have hK3 := hK2.trans (Keep.drewN _ _ _ nq)
              clear c0 c1 c2 c3 hC2 hK2 k3'
              go_wp2
              go_roundg (u - 1 - x)
              case measure => omega
              case rel => exact ⟨u - 1, v - 1, hC3, hK3, by go_num, by go_num, by omega, by omega, by omega, by omega, rfl, hE⟩
            · have k3' : (P.za (u - 1) == P.zb (v - 1)) = false := by simpa using k3
              have hE : Hid ((u, v) = My.hi P x a1 y b1) := by
                show _ = _
                rw [← hsuf.out, show u - x = (u - 1 - x) + 1 by omega, My.suf, if_neg (fun h => k3 h.2.2)]
              clear hsuf k3
              go_upto_region 3 with fail
              go_quiet (fail)
              have hC3 := hC2.drewN nq
              have hK3 := hK2.trans (Keep.drewN _ _ _ nq)
              clear c0 c1 c2 c3 hC2 hK2 k3'
              go_wp2
              go_meet
              case rel => exact ⟨u, v, hC3, hK3, rfl, rfl, hE⟩
          · have k2' : decide ((y : Int) < v) = false := decide_eq_false k2
            have hE : Hid ((u, v) = My.hi P x a1 y b1) := by
              show _ = _
              rw [← hsuf.out, show u - x = (u - 1 - x) + 1 by omega, My.suf, if_neg (fun h => k2 (by have := h.2.1; omega))]
            clear hsuf
            go_upto_region 3 with fail
            go_quiet (fail)
            have hC3 := hC2.drewN nq
            have hK3 := hK2.trans (Keep.drewN _ _ _ nq)
            clear hC2 hK2
            go_wp2
            go_meet
            case rel => exact ⟨u, v, hC3, hK3, rfl, rfl, hE⟩
        · have k1' : decide ((x : Int) < u) = false := decide_eq_false k1
          have hE : Hid ((u, v) = My.hi P x a1 y b1) := by
            show _ = _
            rw [← hsuf.out, show u - x = 0 by omega, My.suf]
          clear hsuf
          go_upto_region 3 with fail
          go_quiet (fail)
          have hC3 := hC2.drewN nq
          have hK3 := hK2.trans (Keep.drewN _ _ _ nq)
          clear hC2 hK2
          go_wp2
          go_meet
          case rel => exact ⟨u, v, hC3, hK3, rfl, rfl, hE⟩
    case rest =>
      obtain ⟨u, v, hC2, hK2, rfl, rfl, hhi⟩ := hcut
      obtain ⟨s, es, s1, s2, s3, s4, s5⟩ := My.suf_spec P x y (a1 - x) a1 b1 (Nat.le_refl _) hx2 hy2
      have hu : u = a1 - s ∧ v = b1 - s := by
        have := hhi.out
        rw [My.hi, es] at this
        simpa using this
      have hne2 : Hid (¬ (x < u ∧ y < v ∧ P.za (u - 1) = P.zb (v - 1))) := by
        show ¬ _
        rw [hu.1, hu.2]; exact s5
      have hu1 : x ≤ u := by omega
      have hu2 : u ≤ a1 := by omega
      have hv1 : y ≤ v := by omega
      have hv2 : v ≤ b1 := by omega
      have hcore : Hid (My.core P (My.cmp P g) x u y v = some M) := by
        show _ = _
        have := hM.out
        rw [My.cmp, ← hlo.out] at this
        simp only at this
        rw [← hhi.out] at this
        exact this
      clear s5 es hC1 hK1 hM hlo hhi hu s1 s2 s3 s4 s
      have hedge : x = u ∨ y = v → M = (fun i => decide (x ≤ i) && decide (i < u), fun j => decide (y ≤ j) && decide (j < v)) := by
        intro h
        have := hcore.out
        rw [My.core, if_pos h] at this
        exact (Option.some.inj this).symm
      by_cases he : x = u ∨ y = v
      · obtain rfl := hedge he
        clear hcore hedge
        go_upto_region 5 with fail
        go_cut [86] from 79 to 85 (fun X w' => w' = wc ∧ X = .bool true)
        case first =>
          by_cases h5 : x = u
          · have h5' : ((x : Int) == u) = true := by simp; omega
            go_wp2_with fail
            go_meet
            case rel => exact ⟨rfl, rfl⟩
          · have h5' : ((x : Int) == u) = false := by simp; omega
            have h6' : ((y : Int) == v) = true := by simp; omega
            go_wp2_with fail
            go_meet
            case rel => exact ⟨rfl, rfl⟩
        case rest =>
          obtain ⟨rfl, rfl⟩ := hcut
          go_wp2_with fail
          go_loopg [11] (u - x) (fun g X wr => ∃ i : Nat, CS P V db ib N (fun j => D j || (decide (x ≤ j) && decide (j < i))) I S st wr ∧ Keep N [P.L, db, ib] w wr ∧ X = .int .i64 i ∧ x ≤ i ∧ i ≤ u ∧ g = u - i)
          case atStart => exact ⟨x, hC2.congr (fun j _ => by simp; omega) (fun _ _ => rfl), hK2, rfl, Nat.le_refl _, hu1, rfl⟩
          case round =>
            obtain ⟨i, hC3, hK3, rfl, hi1, hi2, hg⟩ := hrel
            clear hC2 hK2
            by_cases k1 : (i : Int) < u
            · have c0 := hC3.d0 (by omega)
              obtain ⟨c1, c2⟩ := hC3.dcell (i := i) (by omega)
              have i1 : (i : Int) < P.la := by omega
              have hC4 := hC3.setD (i := i) (by omega)
              have hK4 := hK3.setCell (p := ⟨db, i, none⟩) (by simp) (.bool true)
              go_wp2
              go_roundg (u - (i + 1))
              case measure => omega
              case rel =>
                refine ⟨i + 1, hC4.congr (fun j _ => ?_) (fun _ _ => rfl), hK4, by go_num, by omega, by omega, rfl⟩
                by_cases e : j = i
                · subst e; simp [hi1]
                · have : decide (j < i + 1) = decide (j < i) := decide_eq_decide.mpr (by omega)
                  simp [e, this]
            · obtain rfl : i = u := by omega
              go_wp2_with fail
              go_loopg [12] (v - y) (fun g X wr => ∃ q : Nat, CS P V db ib N (fun j => D j || (decide (x ≤ j) && decide (j < i))) (fun j => I j || (decide (y ≤ j) && decide (j < q))) S st wr ∧ Keep N [P.L, db, ib] w wr ∧ X = .int .i64 q ∧ y ≤ q ∧ q ≤ v ∧ g = v - q)
              case atStart => exact ⟨y, hC3.congr (fun _ _ => rfl) (fun j _ => by simp; omega), hK3, rfl, Nat.le_refl _, hv1, rfl⟩
              case round =>
                obtain ⟨q, hC4, hK4, rfl, hq1, hq2, hg⟩ := hrel
                clear hC3 hK3
                by_cases k2 : (q : Int) < v
                · have c0 := hC4.i0 (by omega)
                  obtain ⟨c1, c2⟩ := hC4.icell (i := q) (by omega)
                  have i1 : (q : Int) < P.lb := by omega
                  have hC5 := hC4.setI (i := q) (by omega)
                  have hK5 := hK4.setCell (p := ⟨ib, q, none⟩) (by simp) (.bool true)
                  go_wp2
                  go_roundg (v - (q + 1))
                  case measure => omega
                  case rel =>
                    refine ⟨q + 1, hC5.congr (fun _ _ => rfl) (fun j _ => ?_), hK5, by go_num, by omega, by omega, rfl⟩
                    by_cases e : j = q
                    · subst e; simp [hq1]
                    · have : decide (j < q + 1) = decide (j < q) := decide_eq_decide.mpr (by omega)
                      simp [e, this]
                · obtain rfl : q = v := by omega
                  go_wp2_with fail
                  go_ret
                  exact ⟨rfl, S, st, hC4, fun t h => h, by omega, by omega, hK4⟩
      · clear hedge
        have hxu : x < u := by omega
        have hyv : y < v := by omega
        have e1 : ((x : Int) == u) = false := by simp; omega
        have e2 : ((y : Int) == v) = false := by simp; omega
        have hnil := fun wx a n c n' c' => Lib.run_eql_slice_nil (P := Try.prog) wx 40 3 a n c n' c' Try.underlying40
        obtain ⟨fa, fn, fc, hf, hfS⟩ : ∃ a n c, fwOf S = .slice a n c ∧ a.isNone = S.isNone := by
          cases S with
          | none => exact ⟨none, 0, 0, rfl, rfl⟩
          | some t => exact ⟨some ⟨t.1, 0, none⟩, t.2.2, t.2.2, rfl, rfl⟩
        have f0 := hC2.f0
        rw [hf] at f0
        clear hf
        go_upto_if 115 with fail
        try rw [hfS]
        clear f0 hfS hnil
        go_cut [13] from 116 to 133 (fun _ w' => ∃ t, CS P V db ib N D I (some t) st w' ∧ Keep N [P.L, db, ib] w w' ∧ (∀ t0, S = some t0 → t = t0) ∧ u - x + (v - y) + 3 ≤ t.2.2 ∧ t.2.2 ≤ 4096)
        case first =>
          cases S with
          | some t0 =>
            go_wp2_with fail
            go_meet
            case rel => exact ⟨t0, hC2, hK2, fun t h => Option.some.inj h, by have := hsz t0 rfl; omega, by have := hsz t0 rfl; omega⟩
          | none =>
            have hmk := run_make_row' (P := Try.prog) 40 3 (.int .i64 0) 8 Try.underlying40 Try.info3 rfl .i64 .i64 (u - x + (v - y) + 3) (by omega) (by omega)
            go_upto_region 17 with fail
            rw [show (u : Int) - x + v - y + 3 = ((u - x + (v - y) + 3 : Nat) : Int) by omega]
            have hN6 := hC2.low.2.2.2.2.2
            generalize hsz9 : u - x + (v - y) + 3 = sz at hmk ⊢
            have hsz8 : sz ≤ 4096 := by omega
            have hsz7 : Hid (u - x + (v - y) + 3 ≤ sz) := by rw [hsz9]; exact Nat.le_refl _
            clear hsz9
            have z0 : wc.cell? ⟨P.L, 4, none⟩ = some (.slice none 0 0) := hC2.f0
            have z1 : wc.cell? ⟨P.L, 5, none⟩ = some (.slice none 0 0) := hC2.g0
            have z2 := hC2.frz 4
            have z3 := hC2.frz 5
            have z4 : P.L < wc.heap.size := by have := hC2.low; omega
            go_region
            · go_wp2_with fail
              go_meet
              case rel => exact ⟨_, (hC2.made sz _ _ (Or.inl ⟨rfl, rfl⟩)).drew, ((((hK2.setCell (p := ⟨P.L, 4, none⟩) (by simp) _).setCell (p := ⟨P.L, 5, none⟩) (by simp) _).alloc (by simp [World.setCell]; omega) _).alloc (by simp [World.setCell]; omega) _).drew, fun _ h => (by cases h), hsz7.out, hsz8⟩
            · go_wp2_with fail
              go_meet
              case rel => exact ⟨_, (hC2.made sz _ _ (Or.inr ⟨rfl, rfl⟩)).drew, ((((hK2.setCell (p := ⟨P.L, 4, none⟩) (by simp) _).setCell (p := ⟨P.L, 5, none⟩) (by simp) _).alloc (by simp [World.setCell]; omega) _).alloc (by simp [World.setCell]; omega) _).drew, fun _ h => (by cases h), hsz7.out, hsz8⟩
        case rest =>
          obtain ⟨t, hC3, hK3, hSt, ht1, ht2⟩ := hcut
          clear hC2 hK2
          obtain ⟨⟨r1, r2, r3, r4⟩, er, hgood⟩ := My.snake_here P hxu hyv (fun h => hne.out ⟨by omega, by omega, h⟩) (fun h => hne2.out ⟨hxu, hyv, h⟩)
          obtain ⟨g1, g2, g3, g4, g5, g6, g7, g8⟩ := hgood
          simp only at g1 g2 g3 g4 g5 g6 g7 g8
          obtain ⟨p0, rfl⟩ := Int.eq_ofNat_of_zero_le g1
          obtain ⟨q0, rfl⟩ := Int.eq_ofNat_of_zero_le g4
          obtain ⟨p1, rfl⟩ := Int.eq_ofNat_of_zero_le (Int.le_trans g1 g2)
          obtain ⟨q1, rfl⟩ := Int.eq_ofNat_of_zero_le (Int.le_trans g4 g5)
          obtain ⟨m1, m2, c1, c2, rfl⟩ := core_split he hcore.out er
          have c1 : Hid (My.cmp P g x (x + p0) y (y + q0) = some m1) := c1
          have c2 : Hid (My.cmp P g (x + p1) u (y + q1) v = some m2) := c2
          have er : Hid (My.snakeOf (eqf (P.at t) x y) ((u : Int) - x) ((v : Int) - y) = some ((p0 : Int), (q0 : Int), (p1 : Int), (q1 : Int))) := er
          obtain ⟨F, B, hMS⟩ := hC3.toMS (n := (u : Int) - x) (m := (v : Int) - y) (by omega) (by omega) (by omega)
          have hNu : Nums (P.at t) x y ((u : Int) - x) ((v : Int) - y) := by
            constructor <;> (try simp only [Lay.at]) <;> omega
          clear hcore hne hne2
          go_wp2_with fail
          refine (snake_any (P.at t) V.vd V.vi x u y v ((u : Int) - x) ((v : Int) - y) st F B _ _ hNu rfl rfl (by omega) (by omega) (by omega) (by omega) hMS er (by omega) hst2).mono ?_
          rintro e w4 ⟨rfl, F', B', st1, hMS', s1, s2, hKB⟩
          have hC4 := hC3.fromMS (by omega) (by omega) hMS' hKB
          have hK4 := hK3.trans (hKB.keep (N := N) (cs := [P.L, db, ib]) (fun b hb => by
            have := hC3.rows t rfl
            simp only [Lay.at, List.mem_cons, List.not_mem_nil, or_false] at hb
            rcases hb with rfl | rfl | rfl
            · left; simp
            · right; exact this.2.2.2.1
            · right; exact this.2.2.2.2))
          clear hC3 hK3 hMS hMS' hKB hNu er
          have hst1 : 0 ≤ st1 := by omega
          go_upto_region 19 with fail
          go_cut [169] from 146 to 168 (fun X w' => w' = w4 ∧ X = .bool false)
          case first =>
            have i1 : IntKind.i64.wrap ((u : Int) - x) = (u : Int) - x := by rw [IntKind.wrap_i64]; omega
            have i2 : IntKind.i64.wrap ((v : Int) - y) = (v : Int) - y := by rw [IntKind.wrap_i64]; omega
            by_cases k1 : (p0 : Int) = u - x
            · have k1' : ((p0 : Int) == (u : Int) - x) = true := by simpa using k1
              have k2' : ((q0 : Int) == (v : Int) - y) = false := by simpa using fun h => g7 ⟨k1, h⟩
              by_cases k3 : (p1 : Int) = 0
              · have k3' : ((p1 : Int) == 0) = true := by simpa using k3
                have k4' : ((q1 : Int) == 0) = false := by simpa using fun h => g8 ⟨k3, by omega⟩
                clear k1 k3
                go_wp2_with fail
                go_meet
                case rel => exact ⟨rfl, rfl⟩
              · have k3' : ((p1 : Int) == 0) = false := by simpa using k3
                clear k1 k3
                go_wp2_with fail
                go_meet
                case rel => exact ⟨rfl, rfl⟩
            · have k1' : ((p0 : Int) == (u : Int) - x) = false := by simpa using k1
              by_cases k3 : (p1 : Int) = 0
              · have k3' : ((p1 : Int) == 0) = true := by simpa using k3
                have k4' : ((q1 : Int) == 0) = false := by simpa using fun h => g8 ⟨k3, by omega⟩
                clear k1 k3
                go_wp2_with fail
                go_meet
                case rel => exact ⟨rfl, rfl⟩
              · have k3' : ((p1 : Int) == 0) = false := by simpa using k3
                clear k1 k3
                go_wp2_with fail
                go_meet
                case rel => exact ⟨rfl, rfl⟩
          case rest =>
            obtain ⟨rfl, rfl⟩ := hcut
            go_wp2_with fail
            rw [← Int.natCast_add, ← Int.natCast_add]
            refine (ih.out D I (some t) st1 wc x (x + p0) y (y + q0) m1 (by omega) (by omega) (by omega) (by omega) hC4 (fun t0 h => by cases h; omega) (by omega) (by omega) c1).mono ?_
            rintro e w5 ⟨rfl, S5, st2, hC5, hS5, t1, t2, hK5⟩
            obtain rfl := hS5 t rfl
            have hK6 := hK4.trans hK5
            clear hC4 hK4 hK5 hS5 c1
            go_wp2_with fail
            rw [← Int.natCast_add, ← Int.natCast_add]
            refine (ih.out _ _ (some t) st2 w5 (x + p1) u (y + q1) v m2 (by omega) (by omega) (by omega) (by omega) hC5 (fun t0 h => by cases h; omega) (by omega) (by omega) c2).mono ?_
            rintro e w6 ⟨rfl, S6, st3, hC6, hS6, t3, t4, hK7⟩
            obtain rfl := hS6 t rfl
            have hK8 := hK6.trans hK7
            clear hC5 hK6 hK7 hS6 c2
            go_wp2_with fail
            go_ret
            exact ⟨rfl, some t, st3, hC6.congr (fun i _ => by simp [My.orM, Bool.or_assoc]) (fun i _ => by simp [My.orM, Bool.or_assoc]), fun t0 h => by rw [hSt t0 h], by omega, by omega, hK8⟩

theorem cmp_all (P : Lay) (V : Four) (db ib N : Nat) : ∀ g, CmpAt P V db ib N g
  | 0 => fun _ _ _ _ _ _ _ _ _ _ _ _ _ _ _ _ _ _ hM => by
    have := hM.out
    rw [My.cmp] at this
    exact absurd this (by simp)
  | g + 1 => cmp_step P V db ib N g (cmp_all P V db ib N g)
end Go.Proofs.Qxb6601687a
